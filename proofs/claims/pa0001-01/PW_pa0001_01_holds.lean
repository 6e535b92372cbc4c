import PyProof.Rows.All
import Wide.All
import OpenK.AllK
import Wide.FinOn
import KE.BytesMake
import KE.KIntText
import PyProof.ZipIter
import PySem.Challenge.RW_pa0001_01
set_option Elab.async false
section
open PySem PySem.W PyProof.Rows
set_option maxRecDepth 100000
set_option maxHeartbeats 8000000
namespace Mine
open_top hd for PySem.Challenge.rw_pa0001_01
end Mine
end
section
open PySem PySem.W PyProof.Rows PySem.Calls
set_option maxRecDepth 100000
set_option maxHeartbeats 8000000
namespace Mine

noncomputable abbrev PR : Program := Challenge.rw_pa0001_01.row.prog

/-- what every heap of the run holds -/
structure Ground0 (w : World) (mean : ExcName → Option Value) (mg mb : Str → Option Value) (h : Heap) : Prop where
  X : (hd.heap_39 w.params).In h
  T : Top hd.view_39 (looseW hd.view_39 [Str.ofString "_twin_re_1", Str.ofString "bytes_types", Str.ofString "_NO_SEP", Str.ofString "b2a_hex", Str.ofString "hexlify", Str.ofString "unhexlify", Str.ofString "b16decode"]) mean mg mb h

theorem Ground0.keeps {w : World} {mean : ExcName → Option Value} {mg mb : Str → Option Value} {h h' : Heap} (W : Ground0 w mean mg mb h) (k : ∀ b o, h.get? b = some o → h'.get? b = some o) : Ground0 w mean mg mb h' := ⟨W.X.keeps k, W.T.keeps k⟩

/-- the heap has grown, nothing has changed -/
def Grown (h h' : Heap) : Prop := ∀ b o, h.get? b = some o → h'.get? b = some o
theorem Grown.rfl {h : Heap} : Grown h h := fun _ _ e => e
theorem Grown.trans {h h' h'' : Heap} (a : Grown h h') (b : Grown h' h'') : Grown h h'' := fun x o e => b x o (a x o e)

/-- a call at depth n and with n units, nothing being handled, of which no more is known -/
abbrev AT (n : Nat) : Around := { handled := none, depth := n, frames := none, guards := none, units := n }
theorem lift {α : Type} {M : Model} {A : Around} {n : Nat} {t : Sem α} {Q : α → Shared → Prop} {E : Value → Shared → Prop} {s : Shared} (hh : A.handled = none) (hd : A.depth ≤ n) (hu : A.units ≤ n) (h : wpAny M (AT n) t Q E s) : wpAny M A t Q E s :=
  fun Γ p hΓ => h Γ p ⟨hΓ.1.trans hh, Nat.le_trans hΓ.2.1 hd, fun _ e => (by cases e), fun _ e => (by cases e), Nat.le_trans hΓ.2.2.2.2 hu⟩

section
variable {w : World} {mean : ExcName → Option Value} {mg mb : Str → Option Value} {A : Around} {s : Shared} {E : Value → Shared → Prop} {Q : Value → Shared → Prop}

theorem enter {name qual : Str} {params : Arguments} {body : List Stmt} {scope : Scope} {dV kV doc pm cdv ct oc : Value} {an od : Option Addr} {osl : Array (Option Value)} {f : Addr} {args : List Value} {kw : List (Str × Value)} {binds : List (Str × Value)}
    (W : Ground0 w mean mg mb s.heap) (hroom : A.depth < recursionLimit)
    (ho : (hd.heap_39 w.params).lookup f = some ⟨oc, od, .func (fnOf name qual params body scope dV kV doc pm an cdv ct), osl⟩) (hcd : codeIn (hd.heap_39 w.params) cdv qual = true)
    (hbind : BindsTo s (fnOf name qual params body scope dV kV doc pm an cdv ct) ⟨args, kw⟩ binds) (hloc : ∀ y ∈ binds, scope.names.lookup y.1 = some .local)
    (h : ∀ h₁, Fr s.heap s.heap.objs.size h₁ (fun y => binds.reverse.lookup y) → News s.heap s.heap.objs.size h₁ [] →
      wpAny (model PR w) (A.deeper (envOf qual scope s.heap.objs.size f cdv)) (execs body (envOf qual scope s.heap.objs.size f cdv))
        (fun fl s' => Q (match fl with | .ret v => v | _ => .none) s')
        (fun e s' => wpAny (model PR w) (A.deeper (envOf qual scope s.heap.objs.size f cdv)) (leaving (envOf qual scope s.heap.objs.size f cdv) e) (fun _ s'' => E e s'') (fun e' s'' => E e' s'') s')
        { s with heap := h₁, toks := s.toks + binds.length })
    (hco : scope.isCoroutine = false) (hgen : scope.isGenerator = false) (hk : scope.kind = .function)
    (hcell : ∀ x ∈ scope.names, x.2 ≠ .cell) : wpAny (model PR w) A (call (.ref f) args kw) Q E s := by
  refine wpAny_call (codeAny_call_def (fd := fnOf name qual params body scope dV kV doc pm an cdv ct) (body := body) (binds := binds) hroom (W.X _ _ ho) rfl W.T.nolimit (codeRec_of W.X hcd) rfl hbind hcell hloc (fun h₁ hns hk₁ => ?_) hco hgen hk)
  exact h h₁ ⟨hns, hk₁, Nat.le_refl _⟩ News.nil
end
end Mine
end
section
open PySem PySem.W PyProof.Rows PySem.Calls
set_option maxRecDepth 100000
set_option maxHeartbeats 8000000
namespace Mine
def octet (x : Int) : Int := if x.fmod 5 = 4 then (x.fdiv 5).fmod 256 else ((x.fdiv 5).fmod 100).fdiv 10 * 16 + (x.fdiv 5).fmod 10
def halvesOf (ns : List Int) : List Int := ns.flatMap fun x => [x.fdiv 16, x.fmod 16]
theorem halvesOf_snoc (ns : List Int) (x : Int) : halvesOf (ns ++ [x]) = halvesOf ns ++ [x.fdiv 16, x.fmod 16] := by simp [halvesOf]
theorem halvesOf_length (ns : List Int) : (halvesOf ns).length = 2 * ns.length := by
  induction ns with
  | nil => rfl
  | cons a r ih => simp only [halvesOf, List.flatMap_cons, List.length_append, List.length_cons, List.length_nil] at ih ⊢; omega
section
variable {w : World} {mean : ExcName → Option Value} {mg mb : Str → Option Value} {s : Shared} {E : Value → Shared → Prop} {Q : Value → Shared → Prop}
theorem octet_call {x : Int} {t : Tok} (W : Ground0 w mean mg mb s.heap) (hq : ∀ h' k t', Grown s.heap h' → Q (.int (octet x) t') { s with heap := h', toks := k }) :
    wpAny (model PR w) (AT 420) (call (.ref 130) [.int x t]) Q E s := by
  delta PR
  obtain ⟨X, T⟩ := W
  have X' := X
  revert X'
  k_fill
  intro _
  w_top on
  refine enter ⟨X, T⟩ (by decide) (by k_is) (by k_is) (BindsTo.of_eq rfl) (locs rfl) ?_ rfl rfl rfl (by decide)
  intro h₁ F' N'
  k_fold
  k_steps
  · rw [octet, if_pos (by assumption)] at hq
    (rename Fr _ _ _ _ => F9)
    exact hq _ _ _ F9.keep
  · rw [octet, if_neg (by assumption)] at hq
    (rename Fr _ _ _ _ => F9)
    exact hq _ _ _ F9.keep
theorem ext2 {prog : Program} {A : Around} {h₀ : Heap} {L D b : Addr} {m : Str → Option Value} {news news' : List (Addr × Obj)} {us : List Value} {x y : Value} {n n2 : Nat} (F : Fr h₀ L s.heap m) (N : News h₀ L s.heap news) (hb : (b, PySem.W.listOf #[x, y] n2) ∈ news)
    (U : Upd D (PySem.W.listOf us.toArray n) (PySem.W.listOf (us ++ [x, y]).toArray (n + 1)) news news') (hz : us.length ≤ 1000)
    (h : ∀ h', Fr h₀ L h' m → News h₀ L h' news' → Q .none { s with heap := h' }) : wpAny (model prog w) A (call (.builtin "list.extend") [.ref D, .ref b]) Q E s := by
  refine kl_extend F N hb (l := us ++ [x, y]) (by simp) (by simp) U ?_ ?_ ?_ h
  · have : Builtin.List.listTooLong (us.toArray.size + #[x, y].size) = false := by
      simp only [Builtin.List.listTooLong, List.size_toArray, List.length_cons, List.length_nil, sizeLine_eq]
      exact decide_eq_false (by omega)
    rw [this]; simp
  · simp [sizeLine_eq]; omega
  · simp [sizeLine_eq]; omega
local macro_rules | `(tactic| walk_at "call builtin:list.extend") => `(tactic| (k_here; (show wpAny _ _ (call (Value.builtin _) [Value.ref _, Value.ref _]) _ _ _); k_dflt (refine' ext2 ?F ?N ?b ?U ?z ?_; (case F => k_asm); (case N => k_asm); (case b => k_mem); (case U => k_upd); (case z => omega)); intro h' F' N'; (try k_sweep)))
theorem halves_call {row : Addr} {vs : List Value} {ns : List Int} (W : Ground0 w mean mg mb s.heap) (hL : s.heap.IsList row vs.toArray) (hI : IntsAre vs ns) (hlen : ns.length ≤ 40)
    (hq : ∀ h' k a vs' n, Grown s.heap h' → h'.get? a = some (PySem.W.listOf vs'.toArray n) → s.heap.get? a = none → IntsAre vs' (halvesOf ns) → Q (.ref a) { s with heap := h', toks := k }) :
    wpAny (model PR w) (AT 420) (call (.ref 137) [.ref row]) Q E s := by
  delta PR
  obtain ⟨X, T⟩ := W
  have X' := X
  revert X'
  k_fill
  intro _
  w_top on
  refine enter (binds := [(Str.ofString "row", .ref row)]) ⟨X, T⟩ (by decide) (by k_is) (by k_is) (BindsTo.of_eq rfl) (locs rfl) ?_ rfl rfl rfl (by decide)
  intro h₁ F' N'
  k_fold
  (k_with "pyIter ref" => k_state (fun pre halves => halves = halvesOf pre ∧ halves.length = 2 * pre.length) "halves")
  (k_with "state" => first | exact ⟨rfl, rfl⟩ | (refine ⟨?_, ?_⟩ <;> simp_all [halvesOf_snoc] <;> omega))
  k_steps
  · (rename News _ _ _ _ => nE')
    refine kst_end ⟨_, halvesOf kPre ++ [kN.fdiv 16, kN.fmod 16], _⟩ (by assumption) nE' (by first | kst_in | kst_inAny) (by first | (intro p hp; kst_mem) | kst_anyIn) (by rfl) ?h1 (by kst_all) (by kst_same) ?h2
    case h1 =>
      (rename (_ = halvesOf kPre) => e1)
      rw [← e1]
      exact IntsAre.append (by assumption) (.cons _ _ (.cons _ _ .nil))
    case h2 => exact ⟨(halvesOf_snoc _ _).symm, by rw [← halvesOf_snoc, halvesOf_length]⟩
  · (rename Fr _ _ _ _ => F9)
    (rename News _ _ _ _ => N9)
    have e := N9 _ (List.Mem.head _)
    refine hq _ _ _ _ _ F9.keep e.1 e.2.2 ?_
    simp_all
end
end Mine
end
section
open PySem PySem.W PyProof.Rows PySem.Calls
set_option maxRecDepth 100000
set_option maxHeartbeats 4000000
namespace Mine
open Builtin
theorem forIn_go {α β : Type} (f : α → β → Sem (ForInStep β)) : ∀ (l : List α) (g : Nat → β) (k : Nat), (∀ i (h : i < l.length), f l[i] (g (k + i)) = pure (.yield (g (k + i + 1)))) → forIn l (g k) f = pure (g (k + l.length))
  | [], _, _, _ => rfl
  | a :: l, g, k, h => by
    rw [List.forIn_cons, show f a (g k) = pure (.yield (g (k + 1))) from h 0 (by simp)]
    have ih := forIn_go f l g (k + 1) (fun i hi => by
      have := h (i + 1) (by simpa using hi)
      rw [List.getElem_cons_succ] at this
      rw [show k + 1 + i = k + (i + 1) by omega]
      exact this)
    rw [show k + 1 + l.length = k + (a :: l).length by simp; omega] at ih
    exact ih
theorem dec_eq (id : String) (b : Array UInt8) (hz : b.size ≤ 1000) (h : ∀ c ∈ b, c.toNat < 128) : _codecs.runDecoder id _codecs.asciiDecoder none true b 0 [] = pure (b.map UInt8.toNat, b.size) := by
  unfold _codecs.runDecoder
  simp only [Std.Legacy.Range.forIn_eq_forIn_range']
  have hs : [:b.size].size = b.size := by simp [Std.Legacy.Range.size]
  have key := fun f (hf : _) => forIn_go (α := Nat) (β := Nat × Array Nat × _codecs.Faults) f (List.range' 0 [:b.size].size) (fun i => (i, (b.map UInt8.toNat).extract 0 i, {})) 0 hf
  have e0 : ((0, #[], {}) : Nat × Array Nat × _codecs.Faults) = (fun i => (i, (b.map UInt8.toNat).extract 0 i, {})) 0 := by simp
  rw [e0, key _ ?_]
  · simp only [List.length_range', hs, Nat.zero_add, pure_bind]
    congr 2
    apply Array.toList_inj.mp
    simp
    exact List.take_of_length_le (by simp)
  · intro i hi
    have hi' : i < b.size := by simpa [hs] using hi
    dsimp only
    rw [if_neg (by rw [sizeLine_eq]; simp; omega), if_neg (by omega)]
    have hc : (b.getD i 0).toNat < 128 := by
      have e : b.getD i 0 = b[i] := by simp [Array.getD, hi']
      rw [e]; exact h _ (Array.getElem_mem hi')
    have hf : _codecs.asciiDecoder.find true b (0 + i) = .text [(b.getD i 0).toNat] (i + 1) := by
      rw [Nat.zero_add]
      show (if (b.getD i 0).toNat < 128 then _ else _) = _
      rw [if_pos hc]; rfl
    rw [hf]
    dsimp only
    congr 3
    · omega
    · congr 1
      apply Array.toList_inj.mp
      have e : b.getD i 0 = b[i] := by simp [Array.getD, hi']
      simp only [Nat.zero_add]
      rw [e]
      simp [List.take_add_one, hi']
theorem foldl_push (cs : List Nat) : ∀ acc : Array UInt8, cs.foldl (fun acc y => acc ++ [Nat.toUInt8 y].toArray) acc = acc ++ (cs.map Nat.toUInt8).toArray := by
  induction cs with
  | nil => intro acc; simp
  | cons c r ih => intro acc; rw [List.foldl_cons, ih]; simp
theorem forIn_two {α β : Type} (f : α → β → Sem (ForInStep β)) (a b : β) (h1 : ∀ x, f x a = pure (.yield b)) (h2 : ∀ x, f x b = pure (.done b)) : ∀ l : List α, l ≠ [] → forIn l a f = pure b
  | [], h => absurd rfl h
  | [x], _ => by rw [List.forIn_cons, h1]; rfl
  | x :: y :: l, _ => by
    rw [List.forIn_cons, h1]
    show forIn (y :: l) b f = pure b
    rw [List.forIn_cons, h2]; rfl
theorem enc_eq (id : String) (v : Value) (x : PySem.Str) (h : ∀ c ∈ x.cps, c < 128) (hz : x.length ≤ 1000) : _codecs.encodeNarrow id _codecs.asciiCodec none v x = pure (x.cps.map Nat.toUInt8) := by
  have hs : [:x.length].size = x.length := by simp [Std.Legacy.Range.size]
  have hlen : x.length = x.cps.size := rfl
  unfold _codecs.encodeNarrow
  simp only [Std.Legacy.Range.forIn_eq_forIn_range', hs]
  by_cases h0 : x.length = 0
  · rw [h0]
    have e : x.cps = #[] := Array.eq_empty_of_size_eq_zero h0
    rw [e]
    simp only [List.range'_zero, List.forIn_nil, pure_bind, Array.map_empty]
  · rw [forIn_two (α := Nat) (β := Nat × Array UInt8 × _codecs.Faults) _ (0, #[], {}) (x.cps.size, x.cps.map Nat.toUInt8, {}) ?_ ?_ _ ?_]
    · simp only [pure_bind]
    · intro _
      have hbad : ∀ c ∈ x.cps, _codecs.asciiCodec.bad c = false := fun c hc => decide_eq_false (by have := h c hc; omega)
      have hfi : Array.findIdx? _codecs.asciiCodec.bad (x.cps.extract 0) = none := by
        simp only [Array.findIdx?_eq_none_iff]
        intro c hc
        exact hbad c (by simpa using hc)
      have hx0 : x.cps[0]? = some (x.cps[0]'(by omega)) := by simp
      have hb0 : _codecs.asciiCodec.bad (x.cps[0]'(by omega)) = false := hbad _ (Array.getElem_mem _)
      dsimp only
      rw [if_neg (by rw [sizeLine_eq]; simp)]
      simp only [hx0, hb0, hfi, Bool.not_false, if_true]
      congr 3
      · simp
      · congr 1
        have e := foldl_push x.cps.toList #[]
        have e2 : (x.cps.extract 0).extract 0 (Option.getD none (x.cps.extract 0).size) = x.cps := by
          apply Array.toList_inj.mp
          simp
        rw [e2, ← Array.foldl_toList]
        refine e.trans ?_
        apply Array.toList_inj.mp
        simp
    · intro _
      dsimp only
      rw [if_neg (by rw [sizeLine_eq]; simp; omega)]
      have hn : x.cps[x.cps.size]? = none := by simp
      rw [hn]
    · intro e
      have : (List.range' 0 x.length).length = 0 := by rw [e]; rfl
      rw [List.length_range'] at this
      exact h0 this

/-- the signs of an octet's hex writing, small letters -/
def hexLow (b : List UInt8) : List Nat := b.flatMap fun c => [Bytes.hexDigit (c.toNat / 16), Bytes.hexDigit (c.toNat % 16)]
theorem hexLow_length (b : List UInt8) : (hexLow b).length = 2 * b.length := by
  induction b with
  | nil => rfl
  | cons c r ih => simp only [hexLow, List.flatMap_cons, List.length_append, List.length_cons, List.length_nil] at ih ⊢; omega
theorem hex_fold : ∀ (l : List (UInt8 × Nat)) (out : Array Nat), l.foldl (fun (out : Array Nat) (p : UInt8 × Nat) => (out.push (Bytes.hexDigit (p.1.toNat / 16))).push (Bytes.hexDigit (p.1.toNat % 16))) out = out ++ (hexLow (l.map (·.1))).toArray
  | [], out => by simp [hexLow]
  | p :: l, out => by
    rw [List.foldl_cons, hex_fold l]
    apply Array.toList_inj.mp
    simp [hexLow]
theorem gives_hex {b : Array UInt8} {t : Tok} : Gives («bytes.hex» ⟨[.bytes b t], []⟩) (.str ⟨(hexLow b.toList).toArray⟩) := by
  refine .of_wp fun M A E s Q hq => ?_
  show wpAny M A (Bytes.bindOptional "bytes.hex" "hex" ["sep", "bytes_per_sep"] [] [] >>= fun r => _) _ E s
  refine wpAny_bind (wpAny_of_eq (a := [none, none]) (by kernel_rfl) ?_)
  refine wpAny_bind (wpAny_pure ?_)
  refine wpAny_bind (wpAny_pure ?_)
  refine wpAny_bind (wpAny_pure ?_)
  refine wpAny_bind (wpAny_of_eq (a := b) rfl ?_)
  have e : (b.toList.zipIdx.foldl (fun (out : Array Nat) (x : UInt8 × Nat) => (out.push (Bytes.hexDigit (x.1.toNat / 16))).push (Bytes.hexDigit (x.1.toNat % 16))) #[]) = (hexLow b.toList).toArray := by
    rw [hex_fold]
    simp
  show wpAny M A (retStr ⟨b.toList.zipIdx.foldl (fun (out : Array Nat) (x : UInt8 × Nat) => (out.push (Bytes.hexDigit (x.1.toNat / 16))).push (Bytes.hexDigit (x.1.toNat % 16))) #[]⟩) _ E s
  rw [e]
  exact wpAny_bind (wpAny_mkStr (wpAny_pure ⟨_, rfl, hq.2⟩) hq.1)
section
variable {prog : Program} {w : World} {A : Around} {E : Value → Shared → Prop} {s : Shared} {t : Tok}
theorem hex_call {b : Array UInt8} {Q : Value → Shared → Prop} (hz : b.size ≤ 1000) (h : ∀ t' k, Q (.str ⟨(hexLow b.toList).toArray⟩ t') { s with toks := k }) : wpAny (model prog w) A (call (.builtin "bytes.hex") [.bytes b t]) Q E s :=
  call_gives FB.slot_bytes_hex (typeIs_bytes _ _ _) FB.entry_bytes_hex (FB.args_bytes_hex_1 _) gives_hex ⟨by show (hexLow b.toList).toArray.size ≤ _; rw [List.size_toArray, hexLow_length, sizeLine_eq]; simp; omega, h _ _⟩
theorem hex_method {M : Model} {b : Array UInt8} {pl : Sem Bool} {Q : Value × List Value → Shared → Prop} (h : Q (.builtin "bytes.hex", [.bytes b t]) s) : wpAny M A (getMethod (.bytes b t) (PySem.Str.ofString "hex") pl) Q E s :=
  KBd.method_of (.bytes b t) (typeIs_bytes _ _ _) FB.slot_bytes_hex FB.type_bytes_hex KBd.noRef h
end
theorem slot_bytes_upper : Slot "bytes" "upper" "bytes.upper" :=
  .of (owner := "bytes") (n := "upper") (by rw [typeLookup_type, builtinLookup_eq_fast]; kernel_rfl) (by decide +kernel) (by decide +kernel) (by decide +kernel)
    (by first | exact .inl (by decide +kernel) | exact .inr (by decide +kernel)) (by rw [isSubtype_type]; kernel_rfl)
theorem type_bytes_upper : typeOf (.builtin "bytes.upper") = pure (.type "method_descriptor") := by show builtinType _ = _; rw [builtinType_eq_fast]; kernel_rfl
theorem entry_bytes_upper : entryFor table "bytes.upper" = some Builtin.«bytes.upper» := entryFor_of_tree (by kernel_rfl)
theorem args_bytes_upper (a : Value) : argsOk "bytes.upper" ⟨[a], []⟩ := by unfold argsOk; kernel_rfl
theorem gives_upper {b : Array UInt8} {t : Tok} : Gives («bytes.upper» ⟨[.bytes b t], []⟩) (.bytes (b.toList.map Bytes.toUpper).toArray) := by
  refine .of_wp fun M A E s Q hq => ?_
  show wpAny M A (selfOnly "bytes.upper" ⟨[.bytes b t], []⟩ >>= fun r => _) _ E s
  refine wpAny_bind (wpAny_of_eq (a := .bytes b t) (by kernel_rfl) ?_)
  refine wpAny_bind (wpAny_of_eq (a := b) rfl ?_)
  exact wpAny_bind (wpAny_mkBytes (wpAny_pure ⟨_, rfl, hq.2⟩) hq.1)
section
variable {prog : Program} {w : World} {A : Around} {E : Value → Shared → Prop} {s : Shared} {t : Tok}
theorem upper_call {b : Array UInt8} {Q : Value → Shared → Prop} (hz : b.size ≤ 1000) (h : ∀ t' k, Q (.bytes (b.toList.map Bytes.toUpper).toArray t') { s with toks := k }) : wpAny (model prog w) A (call (.builtin "bytes.upper") [.bytes b t]) Q E s :=
  call_gives slot_bytes_upper (typeIs_bytes _ _ _) entry_bytes_upper (args_bytes_upper _) gives_upper ⟨by rw [List.size_toArray, List.length_map, sizeLine_eq]; simp; omega, h _ _⟩
theorem upper_method {M : Model} {b : Array UInt8} {pl : Sem Bool} {Q : Value × List Value → Shared → Prop} (h : Q (.builtin "bytes.upper", [.bytes b t]) s) : wpAny M A (getMethod (.bytes b t) (PySem.Str.ofString "upper") pl) Q E s :=
  KBd.method_of (.bytes b t) (typeIs_bytes _ _ _) slot_bytes_upper type_bytes_upper KBd.noRef h
end
theorem gives_encode {x : PySem.Str} {t u : Tok} (h : ∀ c ∈ x.cps, c < 128) (hz : x.length ≤ 1000) : Gives («str.encode» ⟨[.str x t, .str (PySem.Str.ofString "ascii") u], []⟩) (.bytes (x.cps.map Nat.toUInt8)) := by
  refine .of_wp fun M A E s Q hq => ?_
  have e0 : ∀ id v, _codecs.encodeRoad id v x (PySem.Str.ofString "ascii") none = (_codecs.encodeNarrow id _codecs.asciiCodec none v x >>= fun b => mkBytes b) := fun id v => by kernel_rfl
  show wpAny M A (Str.strSelf ⟨[.str x t, .str (PySem.Str.ofString "ascii") u], []⟩ >>= fun r => _) _ E s
  refine wpAny_bind (wpAny_of_eq (a := (.str x t, x, [.str (PySem.Str.ofString "ascii") u])) rfl ?_)
  show wpAny M A (Str.bindOptional "str.encode" "encode" 0 ["encoding", "errors"] [.str (PySem.Str.ofString "ascii") u] [] >>= fun r => _) _ E s
  refine wpAny_bind (wpAny_of_eq (a := [some (.str (PySem.Str.ofString "ascii") u), none]) (by kernel_rfl) ?_)
  refine wpAny_bind (wpAny_of_eq (a := some (PySem.Str.ofString "ascii")) (by kernel_rfl) ?_)
  refine wpAny_bind (wpAny_of_eq (a := none) (by kernel_rfl) ?_)
  show wpAny M A (_codecs.encodeRoad "str.encode" (.str x t) x (PySem.Str.ofString "ascii") none >>= fun v => _) _ E s
  rw [e0, enc_eq _ _ _ h hz]
  refine wpAny_bind (wpAny_bind (wpAny_pure ?_))
  exact wpAny_mkBytes (wpAny_pure ⟨_, rfl, hq.2⟩) hq.1
end Mine
end
section
open PySem PySem.W PyProof.Rows PySem.Calls
set_option maxRecDepth 100000
set_option maxHeartbeats 4000000
namespace Mine
open Builtin
section
variable {prog : Program} {w : World} {A : Around} {E : Value → Shared → Prop} {s : Shared} {t u : Tok}
theorem encode_call {x : PySem.Str} {Q : Value → Shared → Prop} (h : ∀ c ∈ x.cps, c < 128) (hz : x.length ≤ 1000) (hq : ∀ t' k, Q (.bytes (x.cps.map Nat.toUInt8) t') { s with toks := k }) :
    wpAny (model prog w) A (call (.builtin "str.encode") [.str x t, .str (PySem.Str.ofString "ascii") u]) Q E s :=
  call_gives PySem.F.slot_str_encode (show s.TypeIs (.str x t) "str" from rfl) PySem.F.entry_str_encode (PySem.F.args_str_encode_2 _ _) (gives_encode h hz) ⟨by rw [Array.size_map, sizeLine_eq]; exact Nat.le_trans hz (by decide), hq _ _⟩
end
section
variable {A : Around} {E : Value → Shared → Prop} {s : Shared} {t : Tok}
theorem encode_method {M : Model} {x : PySem.Str} {pl : Sem Bool} {Q : Value × List Value → Shared → Prop} (h : Q (.builtin "str.encode", [.str x t]) s) : wpAny M A (getMethod (.str x t) (PySem.Str.ofString "encode") pl) Q E s :=
  getMethod_builtin (show s.TypeIs (.str x t) "str" from rfl) PySem.F.plainAttrs_str PySem.F.slot_str_encode PySem.F.type_str_encode (fun _ e => nomatch e) h
end
theorem args_bytes_decode_2 (a b : Value) : argsOk "bytes.decode" ⟨[a, b], []⟩ := by unfold argsOk; kernel_rfl
theorem road_ascii {id : String} {b : Array UInt8} : _codecs.decodeRoad id b (PySem.Str.ofString "ascii") none [] = (_codecs.runDecoder id _codecs.asciiDecoder none true b 0 [] >>= fun r => mkStr ⟨r.1⟩) := by kernel_rfl
theorem meets_text_ascii {b : Array UInt8} {t t1 t2 : Tok} {d : PySem.Str} (hz : b.size ≤ 1000) (h : ∀ c ∈ b, c.toNat < 128) :
    Meets («_codecs.decode.text» ⟨[.bytes b t, .str (PySem.Str.ofString "ascii") t1, .none, .str d t2], []⟩) (fun _ R s => R (.ok (.ret (.str ⟨b.map UInt8.toNat⟩ s.toks))) { s with toks := s.toks + 1 }) := by
  refine .of_wp fun prog w A R s hS => ?_
  show wpAny _ _ (Bytes.bytesLike _ (.bytes b t) >>= fun r => _) _ _ s
  refine wpAny_bind (wpAny_of_eq KBd.like_eq ?_)
  refine wpAny_bind (wpAny_of_eq KBd.held_eq ?_)
  show wpAny _ _ (_codecs.decodeRoad _ b (PySem.Str.ofString "ascii") none [] >>= fun v => _) _ _ s
  rw [road_ascii, dec_eq _ _ hz h]
  refine wpAny_bind (wpAny_bind (wpAny_pure ?_))
  exact wpAny_mkStr (wpAny_pure ⟨_, rfl, hS⟩) (by show (b.map UInt8.toNat).size ≤ _; rw [Array.size_map, sizeLine_eq]; omega)
theorem decode_cons {c : UInt8} {cs : List UInt8} {t u : Tok} : «bytes.decode» ⟨[.bytes (c :: cs).toArray t, .str (PySem.Str.ofString "ascii") u], []⟩ = (mkStr (PySem.Str.ofString "utf-8") >>= fun _ => mkStr (PySem.Str.ofString "ascii") >>= fun e => mkStr (PySem.Str.ofString "bytes.decode") >>= fun d =>
    call (.builtin "_codecs.decode.text") [.bytes (c :: cs).toArray t, e, .none, d] >>= fun v => ret v) := by kernel_rfl
theorem decode_nil {t u : Tok} : «bytes.decode» ⟨[.bytes #[] t, .str (PySem.Str.ofString "ascii") u], []⟩ = (rule "bytes.decode.empty" >>= fun _ => retStr PySem.Str.empty) := by kernel_rfl
theorem meets_decode_ascii {b : Array UInt8} {t u : Tok} (hz : b.size ≤ 1000) (h : ∀ c ∈ b, c.toNat < 128) :
    Meets («bytes.decode» ⟨[.bytes b t, .str (PySem.Str.ofString "ascii") u], []⟩) (fun _ R s => ∀ t' k, R (.ok (.ret (.str ⟨b.map UInt8.toNat⟩ t'))) { s with toks := k }) := by
  refine .of_wp fun prog w A R s hS => ?_
  obtain ⟨l⟩ := b
  cases l with
  | nil =>
    rw [decode_nil]
    have e : (⟨Array.map UInt8.toNat ⟨[]⟩⟩ : PySem.Str) = PySem.Str.empty := by kernel_rfl
    rw [e] at hS
    refine wpAny_bind (wpAny_rule ?_)
    exact wpAny_bind (wpAny_mkStr (wpAny_pure ⟨_, rfl, hS _ _⟩) (by decide))
  | cons c cs =>
    rw [decode_cons]
    refine wpAny_bind (wpAny_mkStr ?_ (by decide))
    refine wpAny_bind (wpAny_mkStr ?_ (by decide))
    refine wpAny_bind (wpAny_mkStr ?_ (by decide))
    exact wpAny_bind (call_function_meets KBd.kind_text KBd.plain_text KBd.entry_text (KBd.args_text _ _ _ _) (meets_text_ascii hz h) (wpAny_pure ⟨_, rfl, hS _ _⟩))
section
variable {prog : Program} {w : World} {A : Around} {E : Value → Shared → Prop} {s : Shared} {t u : Tok}
theorem decode_call {b : Array UInt8} {Q : Value → Shared → Prop} (hz : b.size ≤ 1000) (h : ∀ c ∈ b, c.toNat < 128) (hq : ∀ t' k, Q (.str ⟨b.map UInt8.toNat⟩ t') { s with toks := k }) :
    wpAny (model prog w) A (call (.builtin "bytes.decode") [.bytes b t, .str (PySem.Str.ofString "ascii") u]) Q E s :=
  call_meets FB.slot_bytes_decode (typeIs_bytes _ _ _) FB.entry_bytes_decode (args_bytes_decode_2 _ _) (meets_decode_ascii hz h) hq
theorem type_bytes {b : Array UInt8} {Q : Value → Shared → Prop} (hq : Q (.type "bytes") s) : wpAny (model prog w) A (call (.type "type") [.bytes b t]) Q E s :=
  call_type_of (typeIs_bytes _ _ _) (by decide +kernel) hq
theorem type_int {i : Int} {Q : Value → Shared → Prop} (hq : Q (.type "int") s) : wpAny (model prog w) A (call (.type "type") [.int i t]) Q E s :=
  call_type_of (show s.TypeIs (.int i t) "int" from rfl) (by decide +kernel) hq
theorem type_str {x : PySem.Str} {Q : Value → Shared → Prop} (hq : Q (.type "str") s) : wpAny (model prog w) A (call (.type "type") [.str x t]) Q E s :=
  call_type_of (show s.TypeIs (.str x t) "str" from rfl) (by decide +kernel) hq
end
end Mine
end
section
open PySem PySem.W PyProof.Rows PySem.Calls
set_option maxRecDepth 100000
namespace Mine
open Builtin
/-- the hex writing of a row of octets, as octets -/
def hexInts (ns : List Int) : List Int := (halvesOf ns).map fun h => 48 + h + h.fdiv 10 * 7
theorem hexDigit_lt (n : Nat) (h : n < 16) : Bytes.hexDigit n < 128 := by unfold Bytes.hexDigit; split <;> omega
theorem hexLow_lt (b : List UInt8) : ∀ c ∈ hexLow b, c < 128 := by
  intro c hc
  unfold hexLow at hc
  obtain ⟨d, _, hd⟩ := List.mem_flatMap.mp hc
  have h1 := d.toNat_lt
  rcases List.mem_cons.mp hd with rfl | hd
  · exact hexDigit_lt _ (by omega)
  · rw [List.mem_singleton.mp hd]; exact hexDigit_lt _ (by omega)
theorem digit_upper : ∀ k : Nat, k < 16 → Bytes.toUpper (Bytes.hexDigit k).toUInt8 = (48 + (k : Int) + (k : Int).fdiv 10 * 7).toNat.toUInt8 := by decide +kernel
theorem byte_toNat {n : Int} (h : 0 ≤ n ∧ n < 256) : n.toNat.toUInt8.toNat = n.toNat := by
  show (UInt8.ofNat n.toNat).toNat = n.toNat
  rw [UInt8.toNat_ofNat']; omega
theorem hexInts_cons (n : Int) (ns : List Int) : hexInts (n :: ns) = (48 + n.fdiv 16 + (n.fdiv 16).fdiv 10 * 7) :: (48 + n.fmod 16 + (n.fmod 16).fdiv 10 * 7) :: hexInts ns := by
  simp [hexInts, halvesOf]
theorem hexLow_cons (c : UInt8) (b : List UInt8) : hexLow (c :: b) = Bytes.hexDigit (c.toNat / 16) :: Bytes.hexDigit (c.toNat % 16) :: hexLow b := by simp [hexLow]
theorem div16 {n : Int} (h : 0 ≤ n ∧ n < 256) : n.fdiv 16 = ((n.toNat / 16 : Nat) : Int) ∧ n.fmod 16 = ((n.toNat % 16 : Nat) : Int) := by
  rw [Int.fdiv_eq_ediv_of_nonneg _ (by decide), Int.fmod_eq_emod_of_nonneg _ (by decide)]
  omega
theorem hex_upper_list : ∀ {ns : List Int}, (∀ n ∈ ns, 0 ≤ n ∧ n < 256) → ((hexLow (ns.map fun n => n.toNat.toUInt8)).map Nat.toUInt8).map Bytes.toUpper = (hexInts ns).map fun n => n.toNat.toUInt8
  | [], _ => rfl
  | n :: ns, h => by
    have hn := h n (by simp)
    have ih := hex_upper_list (ns := ns) (fun m hm => h m (by simp [hm]))
    rw [List.map_cons, hexLow_cons, hexInts_cons, byte_toNat hn]
    simp only [List.map_cons]
    rw [ih, (div16 hn).1, (div16 hn).2, ← digit_upper _ (by omega), ← digit_upper _ (by omega)]
theorem hex_upper {ns : List Int} (h : ∀ n ∈ ns, 0 ≤ n ∧ n < 256) : ((((hexLow (byteArr ns).toList).toArray.map Nat.toUInt8).toList).map Bytes.toUpper).toArray = byteArr (hexInts ns) := by
  unfold byteArr
  rw [← hex_upper_list h]
  simp
theorem hexInts_length (ns : List Int) : (hexInts ns).length = 2 * ns.length := by rw [hexInts, List.length_map, halvesOf_length]
theorem hexInts_in : ∀ {ns : List Int}, (∀ n ∈ ns, 0 ≤ n ∧ n < 256) → ∀ n ∈ hexInts ns, (48 ≤ n ∧ n ≤ 57) ∨ (65 ≤ n ∧ n ≤ 70)
  | [], _, _, h => nomatch h
  | n :: ns, h, m, hm => by
    have hn := h n (by simp)
    rw [hexInts_cons, (div16 hn).1, (div16 hn).2] at hm
    have key : ∀ k : Nat, k < 16 → (48 ≤ 48 + (k : Int) + (k : Int).fdiv 10 * 7 ∧ 48 + (k : Int) + (k : Int).fdiv 10 * 7 ≤ 57) ∨ (65 ≤ 48 + (k : Int) + (k : Int).fdiv 10 * 7 ∧ 48 + (k : Int) + (k : Int).fdiv 10 * 7 ≤ 70) := by decide +kernel
    rcases List.mem_cons.mp hm with rfl | hm
    · exact key _ (by omega)
    · rcases List.mem_cons.mp hm with rfl | hm
      · exact key _ (by omega)
      · exact hexInts_in (fun m hm => h m (by simp [hm])) m hm
end Mine
end
section
open PySem PySem.W PyProof.Rows PySem.Calls
set_option maxRecDepth 100000
set_option maxHeartbeats 8000000
namespace Mine
section
variable {w : World} {mean : ExcName → Option Value} {mg mb : Str → Option Value} {s : Shared} {E : Value → Shared → Prop} {Q : Value → Shared → Prop}
local macro_rules | `(tactic| walk_at "call type:type") => `(tactic| (k_here; first
  | ((with_reducible show wpAny _ _ (call (Value.type "type") [Value.bytes _ _]) _ _ _); refine type_bytes ?_)
  | ((with_reducible show wpAny _ _ (call (Value.type "type") [Value.int _ _]) _ _ _); refine type_int ?_)
  | ((with_reducible show wpAny _ _ (call (Value.type "type") [Value.str _ _]) _ _ _); refine type_str ?_)))
local macro_rules | `(tactic| walk_at "getMethod bytes") => `(tactic| (k_here; first | refine hex_method ?_ | refine upper_method ?_))
theorem buffer_call {b : Array UInt8} {t : Tok} (W : Ground0 w mean mg mb s.heap) (hq : ∀ h' k, Grown s.heap h' → Q (.bytes b t) { s with heap := h', toks := k }) :
    wpAny (model PR w) (AT 420) (call (.ref 85) [.bytes b t]) Q E s := by
  delta PR
  obtain ⟨X, T⟩ := W
  have X' := X
  revert X'
  k_fill
  intro _
  w_top on
  refine enter (binds := [(Str.ofString "data", .bytes b t)]) ⟨X, T⟩ (by decide) (by k_is) (by k_is) (BindsTo.of_eq rfl) (locs rfl) ?_ rfl rfl rfl (by decide)
  intro h₁ F' N'
  k_fold
  k_steps
  all_goals (rename Fr _ _ _ _ => F9)
  all_goals exact hq _ _ F9.keep
local macro_rules | `(tactic| walk_at "call ref") => `(tactic| (k_here; (with_reducible show wpAny _ _ (call (Value.ref 85) _) _ _ _); (with_reducible rename Fr _ _ _ _ => kF); refine lift rfl (Nat.le_of_ble_eq_true rfl) (Nat.le_of_ble_eq_true rfl) (buffer_call (Ground0.keeps (by assumption) (Fr.keep kF)) ?_); intro h' k' gr'; (have F' := Fr.keptAll kF gr'); (have N' := News.grown (by assumption) gr'); k_sweep))
theorem b2a_call {b : Array UInt8} {t : Tok} (W : Ground0 w mean mg mb s.heap) (hz : b.size ≤ 400) (hq : ∀ h' k t', Grown s.heap h' → Q (.bytes ((hexLow b.toList).toArray.map Nat.toUInt8) t') { s with heap := h', toks := k }) :
    wpAny (model PR w) (AT 410) (call (.ref 94) [.bytes b t]) Q E s := by
  delta PR
  have W' := W
  obtain ⟨X, T⟩ := W'
  have X' := X
  revert X'
  k_fill
  intro _
  w_top on
  refine enter (binds := [(Str.ofString "data", .bytes b t), (Str.ofString "sep", .ref 86), (Str.ofString "bytes_per_sep", .int 1 377)]) ⟨X, T⟩ (by decide) (by k_is) (by k_is) (by first | exact BindsTo.of_eq rfl | exact binds_K (by k_in) rfl (by k_is) rfl rfl rfl) (locs rfl) ?_ rfl rfl rfl (by decide)
  intro h₁ F' N'
  k_fold
  k_steps
  refine hex_call (by omega) ?_
  intro t1 k1
  refine encode_method ?_
  k_steps
  refine encode_call (fun c hc => hexLow_lt _ _ (by simpa using hc)) (by show (hexLow b.toList).toArray.size ≤ 1000; rw [List.size_toArray, hexLow_length]; simp; omega) ?_
  intro t2 k2
  (rename Fr _ _ _ _ => F9)
  exact hq _ _ _ F9.keep
local macro_rules | `(tactic| walk_at "call ref") => `(tactic| (k_here; (with_reducible show wpAny _ _ (call (Value.ref 94) _) _ _ _); (with_reducible rename Fr _ _ _ _ => kF); refine lift rfl (Nat.le_of_ble_eq_true rfl) (Nat.le_of_ble_eq_true rfl) (b2a_call (Ground0.keeps (by assumption) (Fr.keep kF)) (by assumption) ?_); intro h' k' t' gr'; (have F' := Fr.keptAll kF gr'); (have N' := News.grown (by assumption) gr'); k_sweep))
theorem b16encode_call {ns : List Int} {t : Tok} (W : Ground0 w mean mg mb s.heap) (hn : ∀ n ∈ ns, 0 ≤ n ∧ n < 256) (hz : ns.length ≤ 400) (hq : ∀ h' k t', Grown s.heap h' → Q (.bytes (byteArr (hexInts ns)) t') { s with heap := h', toks := k }) :
    wpAny (model PR w) (AT 400) (call (.ref 115) [.bytes (byteArr ns) t]) Q E s := by
  delta PR
  have W' := W
  obtain ⟨X, T⟩ := W'
  have X' := X
  revert X'
  k_fill
  intro _
  w_top on
  have hz' : (byteArr ns).size ≤ 400 := by rw [byteArr_size]; exact hz
  refine enter (binds := [(Str.ofString "s", .bytes (byteArr ns) t)]) ⟨X, T⟩ (by decide) (by k_is) (by k_is) (by first | exact BindsTo.of_eq rfl | exact binds_K (by k_in) rfl (by k_is) rfl rfl rfl) (locs rfl) ?_ rfl rfl rfl (by decide)
  intro h₁ F' N'
  k_fold
  k_steps
  refine upper_call (by simp [hexLow_length]; omega) ?_
  intro t2 k2
  (rename Fr _ _ _ _ => F9)
  rw [hex_upper hn]
  exact hq _ _ _ F9.keep
end
end Mine
end
section
open PySem PySem.W PyProof.Rows PySem.Calls
set_option maxRecDepth 100000
set_option maxHeartbeats 8000000
namespace Mine
section
variable {w : World} {mean : ExcName → Option Value} {mg mb : Str → Option Value} {s : Shared} {E : Value → Shared → Prop} {Q : Value → Shared → Prop}
local macro_rules | `(tactic| walk_at "call type:type") => `(tactic| (k_here; first
  | ((with_reducible show wpAny _ _ (call (Value.type "type") [Value.bytes _ _]) _ _ _); refine type_bytes ?_)
  | ((with_reducible show wpAny _ _ (call (Value.type "type") [Value.int _ _]) _ _ _); refine type_int ?_)
  | ((with_reducible show wpAny _ _ (call (Value.type "type") [Value.str _ _]) _ _ _); refine type_str ?_)))
local macro_rules | `(tactic| walk_at "getMethod bytes") => `(tactic| (k_here; first | refine hex_method ?_ | refine upper_method ?_))
def hexVal (c : Int) : Int := if c ≤ 57 then c - 48 else c - 55
theorem hexval_call {c : Int} {t : Tok} (W : Ground0 w mean mg mb s.heap) (hc : (48 ≤ c ∧ c ≤ 57) ∨ (65 ≤ c ∧ c ≤ 70)) (hq : ∀ h' k t', Grown s.heap h' → Q (.int (hexVal c) t') { s with heap := h', toks := k }) :
    wpAny (model PR w) (AT 430) (call (.ref 101) [.int c t]) Q E s := by
  delta PR
  have W' := W
  obtain ⟨X, T⟩ := W'
  have X' := X
  revert X'
  k_fill
  intro _
  w_top on
  refine enter (binds := [(Str.ofString "c", .int c t)]) ⟨X, T⟩ (by decide) (by k_is) (by k_is) (by first | exact BindsTo.of_eq rfl | exact binds_K (by k_in) rfl (by k_is) rfl rfl rfl) (locs rfl) ?_ rfl rfl rfl (by decide)
  intro h₁ F' N'
  k_fold
  unfold hexVal at hq
  rcases hc with hc | hc
  · rw [if_pos hc.2] at hq
    k_steps
    all_goals first | (exfalso; omega) | skip
    all_goals (rename Fr _ _ _ _ => F9)
    all_goals exact hq _ _ _ F9.keep
  · rw [if_neg (by omega)] at hq
    k_steps
    all_goals first | (exfalso; omega) | skip
    all_goals (rename Fr _ _ _ _ => F9)
    all_goals exact hq _ _ _ F9.keep
theorem abuf_call {b : Array UInt8} {t : Tok} (W : Ground0 w mean mg mb s.heap) (hq : ∀ h' k, Grown s.heap h' → Q (.bytes b t) { s with heap := h', toks := k }) :
    wpAny (model PR w) (AT 430) (call (.ref 78) [.bytes b t]) Q E s := by
  delta PR
  obtain ⟨X, T⟩ := W
  have X' := X
  revert X'
  k_fill
  intro _
  w_top on
  refine enter (binds := [(Str.ofString "data", .bytes b t)]) ⟨X, T⟩ (by decide) (by k_is) (by k_is) (BindsTo.of_eq rfl) (locs rfl) ?_ rfl rfl rfl (by decide)
  intro h₁ F' N'
  k_fold
  k_steps
  all_goals (rename Fr _ _ _ _ => F9)
  all_goals exact hq _ _ F9.keep
theorem bfd_bytes {b : Array UInt8} {t : Tok} (W : Ground0 w mean mg mb s.heap) (hq : ∀ h' k, Grown s.heap h' → Q (.bytes b t) { s with heap := h', toks := k }) :
    wpAny (model PR w) (AT 430) (call (.ref 58) [.bytes b t]) Q E s := by
  delta PR
  obtain ⟨X, T⟩ := W
  have X' := X
  revert X'
  k_fill
  intro _
  w_top on
  refine enter (binds := [(Str.ofString "s", .bytes b t)]) ⟨X, T⟩ (by decide) (by k_is) (by k_is) (BindsTo.of_eq rfl) (locs rfl) ?_ rfl rfl rfl (by decide)
  intro h₁ F' N'
  k_fold
  k_steps
  all_goals (rename Fr _ _ _ _ => F9)
  all_goals exact hq _ _ F9.keep
theorem bfd_str {x : Str} {t : Tok} (W : Ground0 w mean mg mb s.heap) (hx : ∀ c ∈ x.cps, c < 128) (hz : x.length ≤ 1000) (hq : ∀ h' k t', Grown s.heap h' → Q (.bytes (x.cps.map Nat.toUInt8) t') { s with heap := h', toks := k }) :
    wpAny (model PR w) (AT 430) (call (.ref 58) [.str x t]) Q E s := by
  delta PR
  obtain ⟨X, T⟩ := W
  have X' := X
  revert X'
  k_fill
  intro _
  w_top on
  refine enter (binds := [(Str.ofString "s", .str x t)]) ⟨X, T⟩ (by decide) (by k_is) (by k_is) (BindsTo.of_eq rfl) (locs rfl) ?_ rfl rfl rfl (by decide)
  intro h₁ F' N'
  k_fold
  k_steps
  refine encode_method ?_
  k_steps
  refine encode_call hx hz ?_
  intro t2 k2
  (rename Fr _ _ _ _ => F9)
  exact hq _ _ _ F9.keep
end
end Mine
end
section
open PySem PySem.W PyProof.Rows PySem.Calls
set_option maxRecDepth 100000
set_option maxHeartbeats 4000000
namespace Mine
open Builtin
def CODE : Array Nat := #[14, 12, 4, 1, 1, 21, 22, 48, 57, 22, 65, 70, 0, 13, 9, 21, 22, 48, 57, 22, 65, 70, 0, 1]
def HexC (c : Nat) : Prop := (48 ≤ c ∧ c ≤ 57) ∨ (65 ≤ c ∧ c ≤ 70)
theorem inSet_hex {c : Nat} (h : HexC c) (seen : Sre.Seen) : ∃ seen', Sre.inSet CODE c CODE.size 5 true seen = .ok (false, seen') := by
  rcases h with h | h
  · refine ⟨(seen.add 21).add 22, ?_⟩
    show Sre.inSet CODE c (22 + 1 + 1) 5 true seen = _
    unfold Sre.inSet
    show Sre.inSet CODE c (22 + 1) 6 false (seen.add 21) = _
    unfold Sre.inSet
    show (if (decide (48 ≤ c) && decide (c ≤ 57)) = true then _ else _) = _
    rw [if_pos (by simp [h])]
    rfl
  · refine ⟨((seen.add 21).add 22).add 22, ?_⟩
    show Sre.inSet CODE c (22 + 1 + 1) 5 true seen = _
    unfold Sre.inSet
    show Sre.inSet CODE c (22 + 1) 6 false (seen.add 21) = _
    unfold Sre.inSet
    show (if (decide (48 ≤ c) && decide (c ≤ 57)) = true then _ else _) = _
    rw [if_neg (by simp; omega)]
    show Sre.inSet CODE c (21 + 1) 9 false ((seen.add 21).add 22) = _
    unfold Sre.inSet
    show (if (decide (65 ≤ c) && decide (c ≤ 70)) = true then _ else _) = _
    rw [if_pos (by simp [h])]
    rfl
theorem admitted_none {m : Sre.M} (hc : m.code = CODE) (hl : m.lim = m.text.size) (ht : ∀ c ∈ m.text, HexC c) : ∀ (fuel i : Nat) (seen : Sre.Seen), ∃ seen', Sre.M.admitted m fuel i seen = .ok (none, seen')
  | 0, _, seen => ⟨seen, rfl⟩
  | fuel + 1, i, seen => by
    unfold Sre.M.admitted
    by_cases hi : i ≥ m.lim
    · rw [if_pos hi]; exact ⟨_, rfl⟩
    · rw [if_neg hi]
      have hlt : i < m.text.size := by omega
      have e : m.text.getD i 0 = m.text[i] := by simp [Array.getD, hlt]
      obtain ⟨s1, h1⟩ := inSet_hex (ht _ (Array.getElem_mem hlt)) seen
      rw [hc, e, h1]
      exact admitted_none hc hl ht fuel (i + 1) s1
theorem run_said {m : Sre.M} (hf : m.frames = []) (ho : m.outcome = none) : ((m.say false).runFor 4).outcome = some .failed := by
  obtain ⟨code, text, lim, start, ls, wt, ma, pc, pos, hnd, om, marks, lm, li, loops, inner, frames, weight, answer, seen, outcome⟩ := m
  dsimp only at hf ho
  subst hf ho
  rfl
theorem run_from {m : Sre.M} (hc : m.code = CODE) (hl : m.lim = m.text.size) (ht : ∀ c ∈ m.text, HexC c) (hf : m.frames = []) (ho : m.outcome = none) (i : Nat) (first : Bool) : ((m.attemptFrom i first).runFor 4).outcome = some .failed := by
  obtain ⟨s1, h1⟩ := admitted_none hc hl ht (m.lim + 1 - i) i m.seen
  have hh : m.hasFirstSet = true := by unfold Sre.M.hasFirstSet; rw [hc]; decide +kernel
  unfold Sre.M.attemptFrom
  rw [hh, h1]
  exact run_said hf ho
theorem search_none (text : Array Nat) (ht : ∀ c ∈ text, HexC c) : ((Sre.forSearch CODE text 0 0 text.size false).runFor 4).outcome = some .failed := by
  unfold Sre.forSearch
  dsimp only
  split
  · exact run_said rfl rfl
  · exact run_from rfl rfl ht rfl rfl _ _
theorem forIn_quiet {α : Type} {M : Model} {A : Around} {E : Value → Shared → Prop} {s : Shared} (f : α → PUnit → Sem (ForInStep PUnit)) (h : ∀ a, wpAny M A (f a ⟨⟩) (fun r s' => r = .yield ⟨⟩ ∧ s' = s) E s) {Q : PUnit → Shared → Prop} (hq : Q ⟨⟩ s) : ∀ l : List α, wpAny M A (forIn l PUnit.unit f) Q E s
  | [] => wpAny_pure hq
  | a :: l => by
    rw [List.forIn_cons]
    refine wpAny_bind (wpAny_mono (h a) (fun r s' hr => ?_) fun _ _ e => e)
    obtain ⟨rfl, rfl⟩ := hr
    exact forIn_quiet f h hq l
theorem run_to_end {M : Model} {A : Around} {E : Value → Shared → Prop} {s : Shared} {m : Sre.M} (h : (m.runFor 4).outcome = some .failed) {Q : Option Sre.M → Shared → Prop} (hq : Q none s) : wpAny M A (Re.reRunToEnd m) Q E s := by
  have e : Re.reDrive (2 ^ 64) m = pure (m.runFor 4) := by
    show Re.reDrive (18446744073709551615 + 1) m = _
    unfold Re.reDrive
    show (if (m.runFor 4).outcome.isSome = true then pure (m.runFor 4) else _) = _
    rw [h]; rfl
  unfold Re.reRunToEnd
  refine wpAny_bind (wpAny_of_eq e ?_)
  refine wpAny_bind ?_
  refine forIn_quiet _ (fun i => ?_) ?_ _
  · split
    · exact wpAny_bind (wpAny_rule (wpAny_pure ⟨rfl, rfl⟩))
    · exact wpAny_pure ⟨rfl, rfl⟩
  · rw [h]
    exact wpAny_pure hq

def patObj (T : Addr) : Obj := { cls := Value.type "re.Pattern", data := Data.fields #[Value.bytes #[91, 94, 48, 45, 57, 65, 45, 70, 93] 303, Value.int 0 330, Value.int 0 0, Value.none, Value.none, Value.ref T, Value.int 1 0] }
def codeObj : Obj := { cls := Value.type "tuple", data := Data.seq #[Value.int 14 0, Value.int 12 0, Value.int 4 0, Value.int 1 0, Value.int 1 0, Value.int 21 0, Value.int 22 0, Value.int 48 0, Value.int 57 0, Value.int 22 0, Value.int 65 0, Value.int 70 0, Value.int 0 0, Value.int 13 0, Value.int 9 0, Value.int 21 0, Value.int 22 0, Value.int 48 0, Value.int 57 0, Value.int 22 0, Value.int 65 0, Value.int 70 0, Value.int 0 0, Value.int 1 0] }
theorem slot_search : Slot "re.Pattern" "search" "re.Pattern.search" :=
  .of (owner := "re.Pattern") (n := "search") (by rw [typeLookup_type, builtinLookup_eq_fast]; kernel_rfl) (by decide +kernel) (by decide +kernel) (by decide +kernel)
    (by first | exact .inl (by decide +kernel) | exact .inr (by decide +kernel)) (by rw [isSubtype_type]; kernel_rfl)
theorem type_search : typeOf (.builtin "re.Pattern.search") = pure (.type "method_descriptor") := by show builtinType _ = _; rw [builtinType_eq_fast]; kernel_rfl
theorem entry_search : entryFor table "re.Pattern.search" = some Builtin.«re.Pattern.search» := entryFor_of_tree (by kernel_rfl)
theorem args_search (a b : Value) : argsOk "re.Pattern.search" ⟨[a, b], []⟩ := by unfold argsOk; kernel_rfl
theorem meets_search {a T : Addr} {b : Array UInt8} {t : Tok} (hb : ∀ c ∈ b, HexC c.toNat) (hz : b.size ≤ 1000) :
    Meets («re.Pattern.search» ⟨[.ref a, .bytes b t], []⟩) (fun _ R s => s.heap.get? a = some (patObj T) ∧ s.heap.get? T = some codeObj ∧ R (.ok (.ret .none)) s) := by
  refine .of_wp fun prog w A R s hS => ?_
  obtain ⟨h1, h2, h3⟩ := hS
  unfold «re.Pattern.search»
  refine wpAny_bind ?_
  unfold Re.reTarget
  refine wpAny_bind (wpAny_of_eq (a := [some (.bytes b t), none, none]) (by kernel_rfl) ?_)
  refine wpAny_bind (wpAny_pure ?_)
  refine wpAny_bind (wpAny_pure ?_)
  refine wpAny_bind (wpAny_fieldsOf h1 rfl ?_)
  refine wpAny_bind ?_
  unfold Re.reTextOf
  refine wpAny_bind (wpAny_of_eq (a := none) rfl ?_)
  refine wpAny_bind (wpAny_of_eq KBy.quiet_eq ?_)
  refine wpAny_pure ?_
  have e1 : Re.reNoCollectionInside (.bytes b t) 1 = pure () := by
    unfold Re.reNoCollectionInside
    rw [KBy.isInstance_eq]
    rfl
  show wpAny _ _ (Re.reNoCollectionInside (Value.bytes b t) 1 >>= fun _ => _) _ _ s
  refine wpAny_bind (wpAny_of_eq e1 ?_)
  refine wpAny_bind ?_
  show wpAny _ _ (Re.reRawItems (.ref T)) _ _ s
  unfold Re.reRawItems
  refine wpAny_bind (wpAny_seqItems h2 rfl (wpAny_pure (wpAny_pure ?_)))
  have hm : Min.min ((2 ^ 63 - 1 : Int).toNat) (b.map fun x => x.toNat).size = (b.map fun x => x.toNat).size := by
    have e : (2 ^ 63 - 1 : Int).toNat = 9223372036854775807 := by decide
    rw [e, Array.size_map]; omega
  have hc : Array.map (fun x : Int => x.toNat) (Array.map Re.reRawOf ((some #[Value.int 14 0, Value.int 12 0, Value.int 4 0, Value.int 1 0, Value.int 1 0, Value.int 21 0, Value.int 22 0, Value.int 48 0, Value.int 57 0, Value.int 22 0, Value.int 65 0, Value.int 70 0, Value.int 0 0, Value.int 13 0, Value.int 9 0, Value.int 21 0, Value.int 22 0, Value.int 48 0, Value.int 57 0, Value.int 22 0, Value.int 65 0, Value.int 70 0, Value.int 0 0, Value.int 1 0]).getD #[])) = CODE := by decide +kernel
  have hs : Sre.forSearch (Array.map (fun x : Int => x.toNat) (Array.map Re.reRawOf ((some #[Value.int 14 0, Value.int 12 0, Value.int 4 0, Value.int 1 0, Value.int 1 0, Value.int 21 0, Value.int 22 0, Value.int 48 0, Value.int 57 0, Value.int 22 0, Value.int 65 0, Value.int 70 0, Value.int 0 0, Value.int 13 0, Value.int 9 0, Value.int 21 0, Value.int 22 0, Value.int 48 0, Value.int 57 0, Value.int 22 0, Value.int 65 0, Value.int 70 0, Value.int 0 0, Value.int 1 0]).getD #[])))
      (b.map fun x => x.toNat) 0 0 (Min.min ((2 ^ 63 - 1 : Int).toNat) (b.map fun x => x.toNat).size) false = Sre.forSearch CODE (b.map fun x => x.toNat) 0 0 (b.map fun x => x.toNat).size false := by rw [hm, hc]
  unfold Re.reAnswer
  refine wpAny_bind (run_to_end ?_ ?_)
  · exact (congrArg (fun m : Sre.M => (m.runFor 4).outcome) hs).trans (search_none _ fun c hc => by
      obtain ⟨d, hd, rfl⟩ := Array.mem_map.mp hc
      exact hb d hd)
  · exact wpAny_pure ⟨_, rfl, h3⟩
theorem plainAttrs_pattern : PlainAttrs "re.Pattern" :=
  ⟨⟨"object.__getattribute__", by rw [typeLookup_type, builtinLookup_eq_fast]; kernel_rfl, by decide +kernel⟩, by rw [typeLookup_type, builtinLookup_eq_fast]; kernel_rfl⟩
section
variable {prog : Program} {w : World} {A : Around} {E : Value → Shared → Prop} {s : Shared} {t : Tok}
theorem search_call {a T : Addr} {b : Array UInt8} {Q : Value → Shared → Prop} (h1 : s.heap.get? a = some (patObj T)) (h2 : s.heap.get? T = some codeObj) (hb : ∀ c ∈ b, HexC c.toNat) (hz : b.size ≤ 1000) (hq : Q .none s) :
    wpAny (model prog w) A (call (.builtin "re.Pattern.search") [.ref a, .bytes b t]) Q E s :=
  call_meets slot_search ⟨_, h1, rfl⟩ entry_search (args_search _ _) (meets_search hb hz) ⟨h1, h2, hq⟩
theorem search_method {M : Model} {a T : Addr} {pl : Sem Bool} {Q : Value × List Value → Shared → Prop} (h1 : s.heap.get? a = some (patObj T)) (h : Q (.builtin "re.Pattern.search", [.ref a]) s) : wpAny M A (getMethod (.ref a) (PySem.Str.ofString "search") pl) Q E s :=
  getMethod_builtin ⟨_, h1, rfl⟩ plainAttrs_pattern slot_search type_search (fun _ e => by cases e; exact ⟨_, h1, rfl⟩) h
end
end Mine
end
section
open PySem PySem.W PyProof.Rows PySem.Calls
set_option maxRecDepth 100000
namespace Mine
open Builtin
/-- the walk stops here -/
def stopT {α : Type} (t : Sem α) : Sem α := t
theorem stop_in {α : Type} {M : Model} {A : Around} {E : Value → Shared → Prop} {s : Shared} {t : Sem α} {Q : α → Shared → Prop} (h : wpAny M A (stopT t) Q E s) : wpAny M A t Q E s := h
theorem stop_on {α : Type} {M : Model} {A : Around} {E : Value → Shared → Prop} {s : Shared} {t : Sem α} {Q : α → Shared → Prop} (h : wpAny M A t Q E s) : wpAny M A (stopT t) Q E s := h
section
variable {w : World} {mean : ExcName → Option Value} {mg mb : PySem.Str → Option Value} {A : Around} {s : Shared} {E : Value → Shared → Prop} {Q : Value → Shared → Prop}
theorem enterR {name qual : PySem.Str} {params : Arguments} {body : List Stmt} {scope : Scope} {dV kV doc pm cdv ct oc : Value} {an od : Option Addr} {osl : Array (Option Value)} {f : Addr} {args : List Value} {kw : List (PySem.Str × Value)} {binds : List (PySem.Str × Value)}
    (W : Ground0 w mean mg mb s.heap) (hroom : A.depth < recursionLimit)
    (ho : (hd.heap_39 w.params).lookup f = some ⟨oc, od, .func (fnOf name qual params body scope dV kV doc pm an cdv ct), osl⟩) (hcd : codeIn (hd.heap_39 w.params) cdv qual = true)
    (hbind : BindsTo s (fnOf name qual params body scope dV kV doc pm an cdv ct) ⟨args, kw⟩ binds) (hloc : ∀ y ∈ binds, scope.names.lookup y.1 = some .local)
    (h : ∀ h₁, Fr s.heap s.heap.objs.size h₁ (fun y => binds.reverse.lookup y) → News s.heap s.heap.objs.size h₁ [] →
      wpAny (model PR w) (A.deeper (envOf qual scope s.heap.objs.size f cdv)) (execs body (envOf qual scope s.heap.objs.size f cdv))
        (fun fl s' => Q (match fl with | .ret v => v | _ => .none) s') (fun _ _ => False)
        { s with heap := h₁, toks := s.toks + binds.length })
    (hco : scope.isCoroutine = false) (hgen : scope.isGenerator = false) (hk : scope.kind = .function)
    (hcell : ∀ x ∈ scope.names, x.2 ≠ .cell) : wpAny (model PR w) A (call (.ref f) args kw) Q E s :=
  enter W hroom ho hcd hbind hloc (fun h₁ F N => wpAny_mono (h h₁ F N) (fun _ _ x => x) (fun _ _ x => x.elim)) hco hgen hk hcell
end
theorem hexInts_at : ∀ {ns : List Int}, (∀ n ∈ ns, 0 ≤ n ∧ n < 256) → ∀ j, j < ns.length → (hexInts ns).getD (2 * j) 0 = 48 + (ns.getD j 0).fdiv 16 + ((ns.getD j 0).fdiv 16).fdiv 10 * 7 ∧ (hexInts ns).getD (2 * j + 1) 0 = 48 + (ns.getD j 0).fmod 16 + ((ns.getD j 0).fmod 16).fdiv 10 * 7
  | [], _, _, h => absurd h (by simp)
  | n :: ns, h, 0, _ => by rw [hexInts_cons]; simp
  | n :: ns, h, j + 1, hj => by
    have ih := hexInts_at (ns := ns) (fun m hm => h m (by simp [hm])) j (by simpa using hj)
    rw [hexInts_cons, show 2 * (j + 1) = (2 * j) + 1 + 1 by omega]
    simpa using ih
theorem hexVal_back : ∀ k : Nat, k < 16 → hexVal (48 + (k : Int) + (k : Int).fdiv 10 * 7) = k := by decide +kernel
theorem hex_back {ns : List Int} (h : ∀ n ∈ ns, 0 ≤ n ∧ n < 256) {j : Nat} (hj : j < ns.length) :
    hexVal ((hexInts ns).getD (2 * j) 0) = (ns.getD j 0).fdiv 16 ∧ hexVal ((hexInts ns).getD (2 * j + 1) 0) = (ns.getD j 0).fmod 16 ∧ 0 ≤ (ns.getD j 0).fdiv 16 ∧ (ns.getD j 0).fdiv 16 < 16 ∧ 0 ≤ (ns.getD j 0).fmod 16 ∧ (ns.getD j 0).fmod 16 < 16 ∧ (ns.getD j 0).fdiv 16 * 16 + (ns.getD j 0).fmod 16 = ns.getD j 0 := by
  have hm : ns.getD j 0 ∈ ns := by
    rw [List.getD_eq_getElem?_getD, List.getElem?_eq_getElem hj]
    exact List.getElem_mem hj
  have hn := h _ hm
  obtain ⟨e1, e2⟩ := hexInts_at h j hj
  rw [e1, e2]
  generalize ns.getD j 0 = n at *
  obtain ⟨d1, d2⟩ := div16 hn
  rw [d1, d2, hexVal_back _ (by omega), hexVal_back _ (by omega)]
  refine ⟨rfl, rfl, ?_, ?_, ?_, ?_, ?_⟩ <;> omega
theorem hexInts_mem {ns : List Int} {k : Nat} (hk : k < 2 * ns.length) : (hexInts ns).getD k 0 ∈ hexInts ns := by
  have hl : k < (hexInts ns).length := by rw [hexInts_length]; exact hk
  rw [List.getD_eq_getElem?_getD, List.getElem?_eq_getElem hl]
  exact List.getElem_mem hl
section
variable {prog : Program} {w : World} {A : Around} {E : Value → Shared → Prop} {s : Shared} {value slice : PySem.Expr} {Q : Value → Shared → Prop}
theorem len_hex {ns : List Int} {t : Tok} (hz : ns.length ≤ 400) (h : ∀ t' k, Q (.int (2 * (ns.length : Int)) t') { s with toks := k }) : wpAny (model prog w) A (call (.builtin "len") [.bytes (byteArr (hexInts ns)) t]) Q E s := by
  have e : ((byteArr (hexInts ns)).size : Int) = 2 * (ns.length : Int) := by rw [byteArr_size, hexInts_length]; omega
  refine len_bytes (by omega) ?_
  rw [e]
  exact h _ _
theorem item_byteArr {hs : List Int} {t ui : Tok} {i : Int} (hn : ∀ n ∈ hs, 0 ≤ n ∧ n < 256) (hz : hs.length ≤ 1000) (h0 : 0 ≤ i) (h1 : i < (hs.length : Int)) (h : Q (.int (hs.getD i.toNat 0) s.toks) { s with toks := s.toks + 1 })
    (hs' : subscripted slice false (.bytes (byteArr hs) t) (.int i ui) = operate [.bytes (byteArr hs) t, .int i ui] (getItem (.bytes (byteArr hs) t) (.int i ui)) := by with_unfolding_all rfl)
    (ht : ∀ r, letTemporaryGo value (.bytes (byteArr hs) t) r = pure () := by intro _; with_unfolding_all rfl) :
    wpAny (model prog w) A (subscriptTail value slice (.bytes (byteArr hs) t) (.int i ui)) Q E s := by
  unfold byteArr at hs' ht ⊢
  refine KBy.item_N (by simp; omega) h0 (by simpa using h1) ?_ hs' ht
  have hl : i.toNat < hs.length := by omega
  have hm : hs.getD i.toNat 0 ∈ hs := by
    rw [List.getD_eq_getElem?_getD, List.getElem?_eq_getElem hl]
    exact List.getElem_mem hl
  have e : (((hs.map fun n : Int => n.toNat.toUInt8).getD i.toNat 0).toNat : Int) = hs.getD i.toNat 0 := by
    have e1 : (hs.map fun n : Int => n.toNat.toUInt8).getD i.toNat 0 = (hs.getD i.toNat 0).toNat.toUInt8 := by
      rw [List.getD_eq_getElem?_getD, List.getD_eq_getElem?_getD, List.getElem?_map, List.getElem?_eq_getElem hl]
      rfl
    rw [e1, byte_toNat (hn _ hm)]
    have := hn _ hm
    omega
  rw [e]
  exact h
end
end Mine
end
section
open PySem PySem.W PyProof.Rows PySem.Calls
set_option maxRecDepth 100000
set_option maxHeartbeats 8000000
namespace Mine
section
variable {w : World} {mean : ExcName → Option Value} {mg mb : Str → Option Value} {s : Shared} {E : Value → Shared → Prop} {Q : Value → Shared → Prop}
local macro_rules | `(tactic| walk_at "call type:type") => `(tactic| (k_here; first
  | ((with_reducible show wpAny _ _ (call (Value.type "type") [Value.bytes _ _]) _ _ _); refine type_bytes ?_)
  | ((with_reducible show wpAny _ _ (call (Value.type "type") [Value.int _ _]) _ _ _); refine type_int ?_)
  | ((with_reducible show wpAny _ _ (call (Value.type "type") [Value.str _ _]) _ _ _); refine type_str ?_)))
local macro_rules | `(tactic| walk_at "getMethod bytes") => `(tactic| (k_here; first | refine hex_method ?_ | refine upper_method ?_))
local macro_rules | `(tactic| walk_at "call ref") => `(tactic| (k_here; (with_reducible show wpAny _ _ (call (Value.ref 78) _) _ _ _); (with_reducible rename Fr _ _ _ _ => kF); refine lift rfl (Nat.le_of_ble_eq_true rfl) (Nat.le_of_ble_eq_true rfl) (abuf_call (Ground0.keeps (by assumption) (Fr.keep kF)) ?_); intro h' k' gr'; (have F' := Fr.keptAll kF gr'); (have N' := News.grown (by assumption) gr'); k_sweep))
local macro_rules | `(tactic| walk_at "exec While Compare cons nil") => `(tactic| (k_here; refine stop_in ?_))
local macro_rules | `(tactic| walk_at "call ref") => `(tactic| (k_here; (with_reducible show wpAny _ _ (call (Value.ref 101) _) _ _ _); (with_reducible rename Fr _ _ _ _ => kF); refine lift rfl (Nat.le_of_ble_eq_true rfl) (Nat.le_of_ble_eq_true rfl) (hexval_call (Ground0.keeps (by assumption) (Fr.keep kF)) (by assumption) ?_); intro h' k' t' gr'; (have F' := Fr.keptAll kF gr'); (have N' := News.grown (by assumption) gr'); k_sweep))
theorem fmod_two (n : Int) : (2 * n).fmod 2 = 0 := by rw [Int.fmod_eq_emod_of_nonneg _ (by decide)]; omega
theorem a2b_call {ns : List Int} {t : Tok} (W : Ground0 w mean mg mb s.heap) (hn : ∀ n ∈ ns, 0 ≤ n ∧ n < 256) (hz : ns.length ≤ 400) (hq : ∀ h' k t', Grown s.heap h' → Q (.bytes (byteArr ns) t') { s with heap := h', toks := k }) :
    wpAny (model PR w) (AT 420) (call (.ref 108) [.bytes (byteArr (hexInts ns)) t]) Q E s := by
  delta PR
  have W' := W
  obtain ⟨X, T⟩ := W'
  have X' := X
  revert X'
  k_fill
  intro _
  w_top on
  refine enterR (binds := [(Str.ofString "hexstr", .bytes (byteArr (hexInts ns)) t)]) ⟨X, T⟩ (by decide) (by k_is) (by k_is) (by first | exact BindsTo.of_eq rfl | exact binds_K (by k_in) rfl (by k_is) rfl rfl rfl) (locs rfl) ?_ rfl rfl rfl (by decide)
  intro h₁ F' N'
  k_fold
  k_steps
  refine len_hex hz ?_
  intro t1 k1
  have hev := fmod_two (ns.length : Int)
  k_steps
  refine stop_on ?_
  (rename Fr _ _ _ _ => F9)
  (rename News _ _ _ _ => N9)
  refine ksw_while (σ := Int × Tok × List Value × Nat) (fun c => [(_, PySem.W.listOf c.2.2.1.toArray c.2.2.2)]) (fun c => [(Str.ofString "i", .int c.1 c.2.1)]) (fun _ => True) [Str.ofString "top", Str.ofString "bot"]
    (fun c => ∃ j : Nat, c.1 = 2 * (j : Int) ∧ j ≤ ns.length ∧ IntsAre c.2.2.1 (ns.take j)) (fun c => 2 * ns.length - c.1.toNat) (0, tk + 1, [], 0) F9 N9 trivial ?_ ⟨0, rfl, Nat.zero_le _, .nil⟩ ?_ (fun _ _ h => h.elim)
  · intro p hp
    rw [List.mem_singleton.mp hp]
    rfl
  rintro ⟨i, ti, us, n9⟩ u h9 tk9 - ⟨j, hi, hj, hI⟩ Fk Nk
  clear F9 N9
  dsimp only at hi hI Fk Nk
  subst hi
  simp only [kstB] at Fk
  k_fold
  have kLen := hI.length
  rw [List.length_take] at kLen
  k_steps
  · have hjl : j < ns.length := by omega
    have hh : ∀ n ∈ hexInts ns, 0 ≤ n ∧ n < 256 := fun n hm => by have := hexInts_in hn n hm; omega
    obtain ⟨b1, b2, b3, b4, b5, b6, b7⟩ := hex_back hn hjl
    have e1 : (2 * (j : Int)).toNat = 2 * j := by omega
    have e2 : (2 * (j : Int) + 1).toNat = 2 * j + 1 := by omega
    have c1 := hexInts_in hn _ (hexInts_mem (ns := ns) (k := 2 * j) (by omega))
    have c2 := hexInts_in hn _ (hexInts_mem (ns := ns) (k := 2 * j + 1) (by omega))
    refine item_byteArr hh (by rw [hexInts_length]; omega) (by omega) (by rw [hexInts_length]; omega) ?_
    rw [e1]
    k_steps
    refine item_byteArr hh (by rw [hexInts_length]; omega) (by omega) (by rw [hexInts_length]; omega) ?_
    rw [e2]
    k_steps
    (rename News _ _ _ _ => nE')
    (try simp only [List.push_toArray] at nE')
    refine ksw_end ⟨_, _, _, _⟩ (by assumption) nE' (by kst_in) trivial (by kst_all) (by ksw_same) ?h2 ?h3
    case h2 =>
      refine ⟨j + 1, by simp; omega, by omega, ?_⟩
      rw [List.take_add_one, List.getElem?_eq_getElem hjl]
      refine IntsAre.append (by assumption) ?_
      have e : hexVal ((hexInts ns).getD (2 * j) 0) * 2 ^ Int.toNat 4 + hexVal ((hexInts ns).getD (2 * j + 1) 0) = ns[j] := by
        rw [b1, b2]
        have e4 : (2 : Int) ^ Int.toNat 4 = 16 := by decide
        rw [e4, b7, List.getD_eq_getElem?_getD, List.getElem?_eq_getElem hjl]
        rfl
      rw [e]
      exact .cons _ _ .nil
    case h3 => simp; omega
  · have hjl : j = ns.length := by omega
    subst hjl
    rw [List.take_length] at *
    (rename Fr _ _ _ _ => F9)
    (rename News _ _ _ _ => N9)
    (rename IntsAre _ _ => I9)
    refine call_bytes_ints (News.isList N9 (List.Mem.head _)) I9 hn (by rw [I9.length, sizeLine_eq]; omega) rfl ?_
    intro h' t' k gr
    exact hq _ _ _ (Grown.trans F9.keep gr)
end
end Mine
end
section
open PySem PySem.W PyProof.Rows PySem.Calls
set_option maxRecDepth 100000
set_option maxHeartbeats 8000000
namespace Mine
section
variable {w : World} {mean : ExcName → Option Value} {mg mb : Str → Option Value} {s : Shared} {E : Value → Shared → Prop} {Q : Value → Shared → Prop}
local macro_rules | `(tactic| walk_at "call ref") => `(tactic| (k_here; first
  | ((with_reducible show wpAny _ _ (call (Value.ref 58) [Value.bytes _ _]) _ _ _); (with_reducible rename Fr _ _ _ _ => kF); refine lift rfl (Nat.le_of_ble_eq_true rfl) (Nat.le_of_ble_eq_true rfl) (bfd_bytes (Ground0.keeps (by assumption) (Fr.keep kF)) ?_); intro h' k' gr'; (have F' := Fr.keptAll kF gr'); (have N' := News.grown (by assumption) gr'); k_sweep)
  | ((with_reducible show wpAny _ _ (call (Value.ref 58) [Value.str _ _]) _ _ _); (with_reducible rename Fr _ _ _ _ => kF); refine lift rfl (Nat.le_of_ble_eq_true rfl) (Nat.le_of_ble_eq_true rfl) (bfd_str (Ground0.keeps (by assumption) (Fr.keep kF)) (by assumption) (by assumption) ?_); intro h' k' t' gr'; (have F' := Fr.keptAll kF gr'); (have N' := News.grown (by assumption) gr'); k_sweep)))
local macro_rules | `(tactic| walk_at "call ref") => `(tactic| (k_here; ((with_reducible show wpAny _ _ (call (Value.ref 108) _) _ _ _); (with_reducible rename Fr _ _ _ _ => kF); refine lift rfl (Nat.le_of_ble_eq_true rfl) (Nat.le_of_ble_eq_true rfl) (a2b_call (Ground0.keeps (by assumption) (Fr.keep kF)) (by assumption) (by assumption) ?_); intro h' k' t' gr'; (have F' := Fr.keptAll kF gr'); (have N' := News.grown (by assumption) gr'); k_sweep)))
theorem hex_bytes {ns : List Int} (hn : ∀ n ∈ ns, 0 ≤ n ∧ n < 256) : ∀ c ∈ byteArr (hexInts ns), HexC c.toNat := by
  intro c hc
  unfold byteArr at hc
  obtain ⟨n, hm, rfl⟩ := List.mem_map.mp (List.mem_toArray.mp hc)
  have h := hexInts_in hn n hm
  rw [byte_toNat (by omega)]
  unfold HexC
  omega
theorem b16d_bytes {ns : List Int} {t : Tok} (W : Ground0 w mean mg mb s.heap) (hn : ∀ n ∈ ns, 0 ≤ n ∧ n < 256) (hz : ns.length ≤ 400) (hq : ∀ h' k t', Grown s.heap h' → Q (.bytes (byteArr ns) t') { s with heap := h', toks := k }) :
    wpAny (model PR w) (AT 410) (call (.ref 123) [.bytes (byteArr (hexInts ns)) t]) Q E s := by
  delta PR
  have W' := W
  obtain ⟨X, T⟩ := W'
  have X' := X
  revert X'
  k_fill
  intro _
  w_top on
  refine enterR (binds := [(Str.ofString "s", .bytes (byteArr (hexInts ns)) t), (Str.ofString "casefold", .bool false)]) ⟨X, T⟩ (by decide) (by k_is) (by k_is) (by first | exact BindsTo.of_eq rfl | exact binds_K (by k_in) rfl (by k_is) rfl rfl rfl) (locs rfl) ?_ rfl rfl rfl (by decide)
  intro h₁ F' N'
  k_fold
  k_steps
  (rename Fr _ _ _ _ => F9)
  have X9 := X.keeps F9.keep
  have p1 : (hd.heap_39 w.params).lookup 50 = some (patObj 49) := by k_is
  have p2 : (hd.heap_39 w.params).lookup 49 = some codeObj := by k_is
  refine search_method (X9 _ _ p1) ?_
  k_steps
  refine search_call (X9 _ _ p1) (X9 _ _ p2) (hex_bytes hn) (by rw [byteArr_size, hexInts_length]; omega) ?_
  clear X9
  k_steps
  (rename Fr _ _ _ _ => F9)
  exact hq _ _ _ F9.keep
theorem b16d_str {ns : List Int} {x : Str} {t : Tok} (W : Ground0 w mean mg mb s.heap) (hn : ∀ n ∈ ns, 0 ≤ n ∧ n < 256) (hz : ns.length ≤ 400) (hx : x.cps.map Nat.toUInt8 = byteArr (hexInts ns)) (hx2 : ∀ c ∈ x.cps, c < 128) (hq : ∀ h' k t', Grown s.heap h' → Q (.bytes (byteArr ns) t') { s with heap := h', toks := k }) :
    wpAny (model PR w) (AT 410) (call (.ref 123) [.str x t]) Q E s := by
  delta PR
  have W' := W
  obtain ⟨X, T⟩ := W'
  have X' := X
  revert X'
  k_fill
  intro _
  w_top on
  have hx3 : x.length ≤ 1000 := by
    have e := congrArg Array.size hx
    rw [Array.size_map, byteArr_size, hexInts_length] at e
    show x.cps.size ≤ 1000
    omega
  refine enterR (binds := [(Str.ofString "s", .str x t), (Str.ofString "casefold", .bool false)]) ⟨X, T⟩ (by decide) (by k_is) (by k_is) (by first | exact BindsTo.of_eq rfl | exact binds_K (by k_in) rfl (by k_is) rfl rfl rfl) (locs rfl) ?_ rfl rfl rfl (by decide)
  intro h₁ F' N'
  k_fold
  k_steps
  (rename Fr _ _ _ _ => F9)
  rw [hx] at F9
  have X9 := X.keeps F9.keep
  have p1 : (hd.heap_39 w.params).lookup 50 = some (patObj 49) := by k_is
  have p2 : (hd.heap_39 w.params).lookup 49 = some codeObj := by k_is
  refine search_method (X9 _ _ p1) ?_
  k_steps
  refine search_call (X9 _ _ p1) (X9 _ _ p2) (hex_bytes hn) (by rw [byteArr_size, hexInts_length]; omega) ?_
  clear X9
  k_steps
  (rename Fr _ _ _ _ => F9)
  exact hq _ _ _ F9.keep
end
end Mine
end
section
open PySem PySem.W PyProof.Rows PySem.Calls
set_option maxRecDepth 100000
set_option maxHeartbeats 4000000
namespace Mine
open Builtin
open Sem (wp)

/-- as wpAny, of the stacks whose codes meet S -/
def wpS {α : Type} (M : Model) (A : Around) (S : List Code → Prop) (t : Sem α) (Q : α → Shared → Prop) (E : Value → Shared → Prop) (s : Shared) : Prop :=
  ∀ Γ p, Γ.In A → S (Γ.code :: Γ.below.map (·.1)) → wp M Γ t (fun a _ s' => Q a s') (fun e _ s' => E e s') p s
def codeS (M : Model) (A : Around) (S : List Code → Prop) (c : Code) (R : Result → Shared → Prop) (s : Shared) : Prop :=
  ∀ Γ p, Γ.code = c → Γ.Below A → S (Γ.below.map (·.1)) → wpCode M Γ R p s
section
variable {α β : Type} {M : Model} {A : Around} {S : List Code → Prop} {E : Value → Shared → Prop} {s : Shared}
theorem wpS_any {t : Sem α} {Q : α → Shared → Prop} (h : wpAny M A t Q E s) : wpS M A S t Q E s := fun Γ p hΓ _ => h Γ p hΓ
theorem wpS_mono {t : Sem α} {Q Q' : α → Shared → Prop} {E' : Value → Shared → Prop} (h : wpS M A S t Q E s) (hQ : ∀ a s, Q a s → Q' a s) (hE : ∀ e s, E e s → E' e s) : wpS M A S t Q' E' s :=
  fun Γ p hΓ hS => Sem.wp_mono M Γ t (fun a _ s => hQ a s) (fun e _ s => hE e s) p s (h Γ p hΓ hS)
theorem wpS_bind {m : Sem α} {f : α → Sem β} {Q : β → Shared → Prop} (h : wpS M A S m (fun a s' => wpS M A S (f a) Q E s') E s) : wpS M A S (m >>= f) Q E s := fun Γ p hΓ hS => by
  rw [Sem.wp_bind']
  exact Sem.wp_mono M Γ m (fun a p' s' h' => h' Γ p' hΓ hS) (fun _ _ _ h' => h') p s (h Γ p hΓ hS)
theorem wpS_holding {vs : List Value} {m : Sem α} {Q : α → Shared → Prop} (h : wpS M A S m Q E s) : wpS M A S (holding vs m) Q E s :=
  fun Γ p hΓ hS => by rw [Sem.wp_holding]; exact h Γ p hΓ hS
theorem wpS_eq {t t' : Sem α} {Q : α → Shared → Prop} (e : t = t') (h : wpS M A S t' Q E s) : wpS M A S t Q E s := e ▸ h
theorem wpS_pure {a : α} {Q : α → Shared → Prop} (h : Q a s) : wpS M A S (pure a) Q E s := fun _ _ _ _ => h
theorem wpS_of_eq {t : Sem α} {a : α} {Q : α → Shared → Prop} (h : t = pure a) (hQ : Q a s) : wpS M A S t Q E s := h ▸ wpS_pure hQ
theorem wpS_call {f : Value} {pos : List Value} {kw : List (PySem.Str × Value)} {Q : Value → Shared → Prop} (hc : codeS M A S (.call f ⟨pos, kw⟩) (wants Q E) s) : wpS M A S (call f pos kw) Q E s := fun Γ p hΓ hS => by
  rw [Sem.wp_cmd_call]
  refine wpCode_mono (fun r s' h => ?_) (hc _ p rfl (hΓ.enter (.call f ⟨pos, kw⟩) none p (by intro x; cases x)) hS)
  cases r with
  | error e => exact h
  | ok fl => cases fl <;> exact h
theorem wpS_own {c : Code} {t : Sem α} {Q : α → Shared → Prop} (hS : ∀ l, S (c :: l)) (h : wpS M (A.under c) S t Q E s) : wpOwn M A c t Q E s := fun Γ p hc hΓ => h Γ p (hc ▸ hΓ.in) (hc ▸ hS _)
end
/-- whatever stands over such a stack, no Python code made the call -/
def Blocked (l : List Code) : Prop := ∀ pre : List Code, (∀ c ∈ pre, c.env?.isNone = true) → pythonCodeMadeTheCall ["int.__new__"] (pre ++ l) = false
theorem Blocked.push {c : Code} {l : List Code} (h : Blocked l) (hc : c.env?.isNone = true) : Blocked (c :: l) := fun pre hp => by
  have := h (pre ++ [c]) (fun d hd => by
    rcases List.mem_append.mp hd with hd | hd
    · exact hp d hd
    · rw [List.mem_singleton.mp hd]; exact hc)
  rwa [List.append_assoc] at this
theorem takeWhile_over {α : Type} {p : α → Bool} : ∀ {pre l : List α}, (∀ c ∈ pre, p c = true) → (pre ++ l).takeWhile p = pre ++ l.takeWhile p
  | [], _, _ => rfl
  | c :: pre, l, h => by
    rw [List.cons_append, List.takeWhile_cons, if_pos (h c (by simp)), takeWhile_over fun d hd => h d (by simp [hd])]
    rfl
theorem blocked_map (args : Args) (l : List Code) : Blocked (.builtin "map.__next__" args :: l) := fun pre hp => by
  unfold pythonCodeMadeTheCall
  rw [takeWhile_over hp]
  have e : ((Code.builtin "map.__next__" args) :: l).takeWhile (fun c => c.env?.isNone) = .builtin "map.__next__" args :: l.takeWhile (fun c => c.env?.isNone) := by
    rw [List.takeWhile_cons]; rfl
  rw [e, List.all_append, List.all_cons]
  rw [Bool.and_eq_false_iff]
  right
  rw [Bool.and_eq_false_iff]
  right
  rw [Bool.and_eq_false_iff]
  left
  have h1 : (["int.__new__"] : List String).contains "map.__next__" = false := by decide +kernel
  have h2 : (("map.__next__" : String) == "type.__call__") = false := by decide +kernel
  show ((["int.__new__"] : List String).contains "map.__next__" || (("map.__next__" : String) == "type.__call__" && _)) = false
  rw [h1, h2]
  rfl
section
variable {M : Model} {A : Around} {E : Value → Shared → Prop} {s : Shared}
theorem codeB_of_tree {c : Code} {R : Result → Shared → Prop} (hc : c.env?.isNone = true)
    (h : wpS M (A.under c) Blocked (M.den c) (fun fin s' => match fin with | .done f => R (.ok f) s' | .again c' => c'.quiet = true ∧ codeS M A Blocked c' R s') (fun e s' => R (.error e) s') s) : codeS M A Blocked c R s := fun Γ p hc' hΓ hS => by
  rw [wpCode_iff_wp, hc']
  refine Sem.wp_mono M Γ _ (fun fin p' s' h' => ?_) (fun _ _ _ h' => h') p s (h Γ p (hc' ▸ hΓ.in) (hc' ▸ hS.push hc))
  cases fin with
  | done f => exact h'
  | again c' => exact ⟨h'.1, h'.2 (Γ.goto c') p' rfl (hΓ.goto c') hS⟩
theorem mark_quiet {a : Addr} {Q : Unit → Shared → Prop} (h : Q () s) : wpS M A Blocked (markTheRefusal ["int.__new__"] (.ref a)) Q E s := fun Γ p hΓ hS => by
  unfold markTheRefusal
  rw [Sem.wp_bind']
  unfold stack
  rw [Sem.wp_stack]
  have e : pythonCodeMadeTheCall ["int.__new__"] (((Γ.code, p) :: Γ.below).map (·.1)) = false := hS [] (fun _ hc => nomatch hc)
  show wp M Γ (if pythonCodeMadeTheCall ["int.__new__"] (((Γ.code, p) :: Γ.below).map (·.1)) = true then _ else _) _ _ p s
  rw [e]
  exact h
end

section
variable {prog : Program} {w : World} {A : Around} {E : Value → Shared → Prop} {s : Shared}
theorem refuse_text {x : PySem.Str} {u : Tok} {text : List Nat} (hh : A.handled = none) (hs : (text.takeWhile (· != 0)).length ≤ 640) (hr : (int_private% "readNumeral") 0 10 (text.takeWhile (· != 0)) = int_private% "Numeral.invalid")
    (hx : ∀ c ∈ x.cps.toList, c < 16 ^ 8) (hl : x.length ≤ 1000)
    (h : ∀ h' k e args, Heap.MadeExc s.heap h' e "ValueError" args → E (.ref e) { s with heap := h', toks := k }) :
    wpS (model prog w) A Blocked ((int_private% "intFromText") (.str x u) text 10) (fun _ _ => False) E s := by
  have e : (int_private% "intFromText") (.str x u) text 10 = (do
      rule "int.__new__.invalid-literal"
      let shown ← pyRepr (.str x u)
      let m ← mkStr (PySem.Str.ofString (toString "invalid literal for int() with base " ++ toString 10 ++ toString ": ") ++ { cps := shown.cps.extract 0 200 })
      let refusal ← newExc (.type "ValueError") [m]
      markTheRefusal ["int.__new__"] refusal
      raiseNew refusal) := by
    show (if (text.takeWhile (· != 0)).length ≤ 640 then _ else _) = _
    rw [if_pos hs]
    simp only [pure_bind, hr]
    rfl
  refine wpS_eq e ?_
  refine wpS_bind (wpS_any (wpAny_rule ?_))
  have hR := StrLaws.reprText_len x hx
  refine wpS_bind (wpS_any (wpAny_pyRepr_str ?_ (by rw [sizeLine_eq]; omega)))
  refine wpS_bind (wpS_any (wpAny_mkStr ?_ ?hm))
  case hm =>
    rw [PySem.Str.length_append, sizeLine_eq]
    have e1 : (PySem.Str.ofString (toString "invalid literal for int() with base " ++ toString 10 ++ toString ": ")).length ≤ 100 := by decide +kernel
    have e2 : ({ cps := (reprText x).cps.extract 0 200 } : PySem.Str).length ≤ 200 := by
      show ((reprText x).cps.extract 0 200).size ≤ 200
      rw [Array.size_extract]; omega
    omega
  refine wpS_bind (wpS_any (wpAny_newExc_plain plainExc_ValueError (fun h' e hE => ?_)))
  refine wpS_bind (mark_quiet ?_)
  refine wpS_any (wpAny_raiseNew_none hh ?_)
  exact h _ _ _ _ hE
theorem wpS_ite_false {α : Type} {M : Model} {S : List Code → Prop} {c : Bool} {a b : Sem α} {Q : α → Shared → Prop} (hc : c = false) (h : wpS M A S b Q E s) : wpS M A S (if c = true then a else b) Q E s := by
  subst hc
  exact h
theorem new_refuses {x : PySem.Str} {u : Tok} (hh : A.handled = none) (hl : x.length ≤ 640) (hn : PySem.intText? x = none) (hx : ∀ c ∈ x.cps.toList, 48 ≤ c ∧ c < 128)
    (h : ∀ h' k e args, Heap.MadeExc s.heap h' e "ValueError" args → E (.ref e) { s with heap := h', toks := k }) :
    wpS (model prog w) A Blocked («int.__new__» ⟨[.type "int", .str x u], []⟩) (fun _ _ => False) E s := by
  have hall : numTextOf x = x.cps.toList := if_pos (by
    rw [← Array.all_toList, List.all_eq_true]
    intro c hc
    exact decide_eq_true (hx c hc).2)
  have hseen : numSeenOf x = x.cps.toList := by
    show (numTextOf x).takeWhile _ = _
    rw [hall]
    exact NumText.takeWhile_all fun c hc => bne_iff_ne.mpr (by have := hx c hc; omega)
  have hs : (numSeenOf x).length ≤ 640 := Nat.le_trans (seen_length x) hl
  have hr : (int_private% "readNumeral") 0 10 ((numTextOf x).takeWhile (· != 0)) = int_private% "Numeral.invalid" := by
    rcases read0 x hs with ⟨m, h1, _⟩ | ⟨_, h1 | ⟨_, _, h2⟩⟩
    · rw [hn] at h1; cases h1
    · exact h1
    · exact absurd (by rw [hseen, hall]; exact beq_self_eq_true _) h2
  have f1 := PySem.F.conv_sub_int
  have f2 := PySem.F.madeHere_int
  have f3 := KIN.str_int
  have f4 := KIN.str_idx
  have f5 := KIN.str_trunc
  have f6 : typeOf (.str x u) = pure (.type "str") := rfl
  unfold «int.__new__»
  dsimp only
  refine wpS_bind (wpS_of_eq (a := true) rfl ?_)
  refine wpS_ite_false rfl ?_
  refine wpS_bind (wpS_of_eq f1 ?_)
  refine wpS_ite_false rfl ?_
  refine wpS_bind (wpS_of_eq f2 ?_)
  refine wpS_ite_false rfl ?_
  show wpS _ _ _ (forIn ([] : List (PySem.Str × Value)) PUnit.unit _ >>= fun _ => _) _ _ _
  refine wpS_bind (wpS_pure ?_)
  show wpS _ _ _ ((int_private% "intFromObject") (.str x u) >>= fun _ => _) _ _ _
  refine wpS_bind ?_
  refine wpS_mono (Q := fun _ _ => False) (E := E) ?_ (fun _ _ x => x.elim) (fun _ _ x => x)
  show wpS _ _ _ (callSpecial? (.str x u) (PySem.Str.ofString "__int__") >>= fun _ => _) _ _ _
  refine wpS_bind (wpS_any ?_)
  obtain ⟨hp, g, d, tk, os⟩ := s
  repeat (any_goals (first | assumption | wp_step))
  dsimp only
  refine wpS_bind (wpS_of_eq (a := none) f4 ?_)
  refine wpS_ite_false rfl ?_
  refine wpS_bind (wpS_of_eq (a := none) f5 ?_)
  dsimp only
  refine wpS_bind (wpS_of_eq (a := some (numTextOf x)) rfl ?_)
  dsimp only
  exact refuse_text hh hs hr (fun c hc => by have := (hx c hc).2; exact Nat.lt_trans this (by decide)) (by omega) h
theorem codeB_builtin {R : Result → Shared → Prop} {id : String} {args : Args} {b : Builtin} (hb : entryFor table id = some b)
    (h : wpS (model prog w) (A.under (.builtin id args)) Blocked (b args) (fun fin s' => match fin with | .done f => R (.ok f) s' | .again c' => c'.quiet = true ∧ codeS (model prog w) A Blocked c' R s') (fun e s' => R (.error e) s') s) :
    codeS (model prog w) A Blocked (.builtin id args) R s := by
  refine codeB_of_tree rfl ?_
  show wpS _ _ _ (match entryFor table id with | some b => b args | none => unsupported ((withoutEnding? id "#data").getD id)) _ _ s
  rw [hb]; exact h
theorem codeB_call_builtin {R : Result → Shared → Prop} {id : String} {args : Args} {b : Builtin} (hq : plainId id = true) (hb : entryFor table id = some b) (hc : checkBuiltinCall id args = pure ())
    (h : wpS (model prog w) A.in1 Blocked (b args) (fun fin s' => match fin with | .done f => R (.ok f) s' | .again c' => c'.quiet = true ∧ codeS (model prog w) A Blocked c' R s') (fun e s' => R (.error e) s') s) :
    codeS (model prog w) A Blocked (.call (.builtin id) args) R s := by
  refine codeB_of_tree rfl ?_
  show wpS _ _ _ (do checkBuiltinCall id args; again (.builtin id args)) _ _ s
  refine wpS_bind (wpS_of_eq hc (wpS_pure ⟨plainId_quiet hq args, codeB_builtin hb ?_⟩))
  rw [Around.under_plainId hq args]
  exact h
theorem type_call_refuses {x : PySem.Str} {u : Tok} (hh : A.handled = none) (hl : x.length ≤ 640) (hn : PySem.intText? x = none) (hx : ∀ c ∈ x.cps.toList, 48 ≤ c ∧ c < 128)
    (h : ∀ h' k e args, Heap.MadeExc s.heap h' e "ValueError" args → E (.ref e) { s with heap := h', toks := k }) :
    wpS (model prog w) A Blocked (call (.type "int") [.str x u]) (fun _ _ => False) E s := by
  obtain ⟨c, tl, hmro⟩ := PySem.F.called_int.mro
  have hmade := PySem.F.called_int.made
  refine wpS_call (codeB_of_tree rfl ?_)
  show wpS _ _ _ (callAny (.type "int") _) _ _ _
  refine wpS_pure ⟨Code.quiet_builtin _ (by decide +kernel), codeB_builtin PySem.F.entry_type_call ?_⟩
  rw [Around.under_plain (weight_type_call_type "int" [.str x u] []) (units_type_call_type "int" [.str x u] [])]
  unfold «type.__call__»
  dsimp only
  refine wpS_ite_false rfl ?_
  refine wpS_ite_false PySem.F.called_int.canCreate ?_
  refine wpS_bind (wpS_of_eq (PySem.F.typeCall_int_1 _) ?_)
  refine wpS_bind (wpS_of_eq hmro ?_)
  refine wpS_ite_false rfl ?_
  refine wpS_bind (wpS_of_eq hmade ?_)
  dsimp only
  refine wpS_bind (wpS_pure ?_)
  refine wpS_bind ?_
  refine wpS_mono (Q := fun _ _ => False) (E := E) ?_ (fun _ _ x => x.elim) (fun _ _ x => x)
  refine wpS_holding (wpS_call ?_)
  refine codeB_call_builtin PySem.F.called_int.plain PySem.F.entry_int_new (PySem.F.newCall_int_1 _) ?_
  refine wpS_mono (new_refuses (E := E) hh hl hn hx h) (fun _ _ x => x.elim) (fun _ _ x => x)
end
end Mine
end
section
open PySem PySem.W PyProof.Rows PySem.Calls
set_option maxRecDepth 100000
namespace Mine
open Builtin Builtin.Str StrLaws
theorem dot_at {x y : PySem.Str} {i : Nat} (hx : 46 ∉ x.cps.toList) (hy : 46 ∉ y.cps.toList) (h : At (x ++ PySem.Str.ofString "." ++ y) (PySem.Str.ofString ".") (x ++ PySem.Str.ofString "." ++ y).length i) : i = x.length := by
  have h' := (subAt_one (x ++ PySem.Str.ofString "." ++ y) 46 i).mp h
  have e : (x ++ PySem.Str.ofString "." ++ y).cps.toList = x.cps.toList ++ 46 :: y.cps.toList := by
    show (x.cps ++ (PySem.Str.ofString ".").cps ++ y.cps).toList = _
    have e2 : (PySem.Str.ofString ".").cps = #[46] := by decide +kernel
    rw [e2]
    simp
  rw [e] at h'
  by_cases h1 : i < x.cps.toList.length
  · rw [List.getElem?_append_left h1] at h'
    exact absurd (List.mem_of_getElem? h') hx
  · rw [List.getElem?_append_right (by omega)] at h'
    cases hk : i - x.cps.toList.length with
    | zero =>
      have : x.cps.toList.length = x.length := Array.length_toList
      omega
    | succ k =>
      rw [hk, List.getElem?_cons_succ] at h'
      exact absurd (List.mem_of_getElem? h') hy
theorem split_dot (x y : PySem.Str) (hx : 46 ∉ x.cps.toList) (hy : 46 ∉ y.cps.toList) (hk : ∀ c ∈ (x ++ PySem.Str.ofString "." ++ y).cps, c < 256) : Txt.split (x ++ PySem.Str.ofString "." ++ y) (PySem.Str.ofString ".") = [x, y] := by
  have hlen : (x ++ PySem.Str.ofString "." ++ y).length = x.length + 1 + y.length := by
    rw [PySem.Str.length_append, PySem.Str.length_append]; rfl
  have e : (x ++ PySem.Str.ofString "." ++ y).cps.toList = x.cps.toList ++ 46 :: y.cps.toList := by
    show (x.cps ++ (PySem.Str.ofString ".").cps ++ y.cps).toList = _
    have e2 : (PySem.Str.ofString ".").cps = #[46] := by decide +kernel
    rw [e2]
    simp
  have hat : At (x ++ PySem.Str.ofString "." ++ y) (PySem.Str.ofString ".") (x ++ PySem.Str.ofString "." ++ y).length x.length := by
    refine (subAt_one (x ++ PySem.Str.ofString "." ++ y) 46 x.length).mpr ?_
    rw [e, List.getElem?_append_right (by exact Nat.le_of_eq Array.length_toList)]
    have : x.cps.toList.length = x.length := Array.length_toList
    simp [this]
  have hocc : occurrences (x ++ PySem.Str.ofString "." ++ y) (PySem.Str.ofString ".") 0 (x ++ PySem.Str.ofString "." ++ y).length ((x ++ PySem.Str.ofString "." ++ y).length + 1) = [x.length] := by
    obtain ⟨f, hc⟩ := occ_chain (x ++ PySem.Str.ofString "." ++ y) (PySem.Str.ofString ".") ((x ++ PySem.Str.ofString "." ++ y).length + 1)
    rcases occ_head (x ++ PySem.Str.ofString "." ++ y) (PySem.Str.ofString ".") ((x ++ PySem.Str.ofString "." ++ y).length + 1) (by omega) with ⟨_, hn⟩ | ⟨i, r, he, hi, _⟩
    · exact absurd hat (hn _)
    · rw [he] at hc ⊢
      have h1 := dot_at hx hy hi
      subst h1
      cases r with
      | nil => rfl
      | cons j r =>
        obtain ⟨_, _, h2, h3, _⟩ := hc
        have h4 := dot_at hx hy h3
        have h5 : (PySem.Str.ofString ".").length = 1 := by decide +kernel
        omega
  unfold Txt.split
  have k1 : strKind (x ++ PySem.Str.ofString "." ++ y) = 1 := if_pos (by rw [Array.all_eq_true_iff_forall_mem]; intro c hc; exact decide_eq_true (hk c hc))
  have k2 : strKind (PySem.Str.ofString ".") = 1 := by decide +kernel
  have k3 : (PySem.Str.ofString ".").length = 1 := by decide +kernel
  rw [k1, k2, k3, hlen, if_neg (by simp)]
  rw [← hlen, hocc]
  rw [if_neg (by simp)]
  rw [partsBetween_eq]
  show [strSub _ 0 x.length, strSub _ (x.length + 1) (x ++ PySem.Str.ofString "." ++ y).length] = [x, y]
  have hxl : x.cps.toList.length = x.length := Array.length_toList
  have p1 : strSub (x ++ PySem.Str.ofString "." ++ y) 0 x.length = x := by
    refine (mk_of_toList (x := strSub _ _ _) rfl).trans ?_
    rw [strSub_toList, e]
    have : List.take (x.length - 0) (List.drop 0 (x.cps.toList ++ 46 :: y.cps.toList)) = x.cps.toList := by
      rw [List.drop_zero, Nat.sub_zero, ← hxl, List.take_left]
    rw [this]
  have p2 : strSub (x ++ PySem.Str.ofString "." ++ y) (x.length + 1) (x ++ PySem.Str.ofString "." ++ y).length = y := by
    refine (mk_of_toList (x := strSub _ _ _) rfl).trans ?_
    rw [strSub_toList, e, hlen]
    have : List.take (x.length + 1 + y.length - (x.length + 1)) (List.drop (x.length + 1) (x.cps.toList ++ 46 :: y.cps.toList)) = y.cps.toList := by
      rw [← hxl, List.drop_append]
      have : y.cps.toList.length = y.length := Array.length_toList
      simp
      rw [List.drop_of_length_le (by simp), List.nil_append]
      exact List.take_of_length_le (Nat.le_of_eq Array.length_toList)
    rw [this]
  rw [p1, p2]
end Mine
end
section
open PySem PySem.W PyProof.Rows PySem.Calls
set_option maxRecDepth 100000
set_option maxHeartbeats 4000000
namespace Mine
open Builtin
theorem slot_map_init : Slot "map" "__init__" "object.__init__" :=
  .of (owner := "object") (n := "__init__") (by rw [typeLookup_type, builtinLookup_eq_fast]; kernel_rfl) (by decide +kernel) (by decide +kernel) (by decide +kernel)
    (by first | exact .inl (by decide +kernel) | exact .inr (by decide +kernel)) (by rw [isSubtype_type]; kernel_rfl)
theorem slot_map_next : Slot "map" "__next__" "map.__next__" :=
  .of (owner := "map") (n := "__next__") (by rw [typeLookup_type, builtinLookup_eq_fast]; kernel_rfl) (by decide +kernel) (by decide +kernel) (by decide +kernel)
    (by first | exact .inl (by decide +kernel) | exact .inr (by decide +kernel)) (by rw [isSubtype_type]; kernel_rfl)
theorem slot_map_iter : Slot "map" "__iter__" "map.__iter__" :=
  .of (owner := "map") (n := "__iter__") (by rw [typeLookup_type, builtinLookup_eq_fast]; kernel_rfl) (by decide +kernel) (by decide +kernel) (by decide +kernel)
    (by first | exact .inl (by decide +kernel) | exact .inr (by decide +kernel)) (by rw [isSubtype_type]; kernel_rfl)
theorem mro_map : mroOf (.type "map") = pure [.type "map", .type "object"] := by rw [mroOf_type]; kernel_rfl
theorem lookup_map_new : typeLookup (.type "map") "__new__" = pure (some (.builtin "map.__new__")) := by rw [typeLookup_type, builtinLookup_eq_fast]; kernel_rfl
theorem sub_map : isSubtype (.type "map") (.type "map") = pure true := by rw [isSubtype_type]; kernel_rfl
theorem called_map : TypeCalled "map" "map.__new__" "object.__init__" :=
  ⟨by decide +kernel, by decide +kernel, ⟨_, _, mro_map⟩, madeBy_type mro_map lookup_map_new (by decide +kernel), by decide +kernel, by rw [isSubtype_type]; kernel_rfl, slot_map_init⟩
theorem typeCall_map_2 (a b : Value) : checkTypeCall "map" ⟨[a, b], []⟩ = pure () := by kernel_rfl
theorem newCall_map_2 (a b : Value) : checkBuiltinCall "map.__new__" ⟨[.type "map", a, b], []⟩ = pure () := by kernel_rfl
theorem entry_map_new : entryFor table "map.__new__" = some Builtin.«map.__new__» := entryFor_of_tree (by kernel_rfl)
theorem entry_map_next : entryFor table "map.__next__" = some Builtin.«map.__next__» := entryFor_of_tree (by kernel_rfl)
theorem args_map_next (a : Value) : argsOk "map.__next__" ⟨[a], []⟩ := by unfold argsOk; kernel_rfl
theorem args_map_iter (a : Value) : argsOk "map.__iter__" ⟨[a], []⟩ := by unfold argsOk; kernel_rfl
theorem entry_map_iter : entryFor table "map.__iter__" = some Builtin.«dict_keyiterator.__iter__» :=
  entryFor_alias (id' := "dict_keyiterator.__iter__") (by kernel_rfl) (by first | rfl | decide +kernel) (by decide +kernel) (by kernel_rfl)
/-- a map of int over the list l, i items taken -/
def MapAt (h : Heap) (a it l : Addr) (i : Nat) : Prop :=
  h.IsListIter it l i ∧ ∃ tup, h.get? tup = some { cls := .type "tuple", data := .seq #[.ref it] } ∧ h.get? a = some { cls := .type "map", data := .fields #[.ref tup, .type "int"] } ∧ tup ≠ it ∧ a ≠ it
theorem meets_map_new (l : Addr) (xs : Array Value) :
    Meets (Builtin.«map.__new__» ⟨[.type "map", .type "int", .ref l], []⟩) (fun _ R s => s.heap.IsList l xs ∧
      R (.ok (.ret (.ref ((s.heap.push { cls := .type "list_iterator", data := .fields #[.ref l, .int 0 0] }).push { cls := .type "tuple", data := .seq #[.ref s.heap.objs.size] }).objs.size)))
        { s with heap := ((s.heap.push { cls := .type "list_iterator", data := .fields #[.ref l, .int 0 0] }).push { cls := .type "tuple", data := .seq #[.ref s.heap.objs.size] }).push { cls := .type "map", data := .fields #[.ref (s.heap.push { cls := .type "list_iterator", data := .fields #[.ref l, .int 0 0] }).objs.size, .type "int"] } }) :=
  .of_wp fun prog w A R s h => by
    obtain ⟨hp, g, d, tk, os⟩ := s; obtain ⟨hl1, h⟩ := h
    have hsub := sub_map
    have hL1 : Heap.IsList (Shared.heap ⟨hp, g, d, tk, os⟩) l xs := hl1
    wp_walk using wpAny_pyIter_list hL1
    exact ⟨_, rfl, h⟩
end Mine
end
section
open PySem PySem.W PyProof.Rows PySem.Calls
set_option maxRecDepth 100000
set_option maxHeartbeats 4000000
namespace Mine
open Builtin
section
variable {prog : Program} {w : World} {A : Around} {E : Value → Shared → Prop} {s : Shared}
theorem map_call {l : Addr} {xs : Array Value} {Q : Value → Shared → Prop} (hl : s.heap.IsList l xs)
    (h : ∀ h' a it, (∀ b o, s.heap.get? b = some o → h'.get? b = some o) → s.heap.objs.size ≤ it → s.heap.objs.size ≤ a → MapAt h' a it l 0 → Q (.ref a) { s with heap := h' }) :
    wpAny (model prog w) A (call (.type "map") [.type "int", .ref l]) Q E s := by
  refine callType_new called_map (by decide) (typeCall_map_2 _ _) (newCall_map_2 _ _) (fun obj => PySem.F.args_object_init_3 obj _ _) entry_map_new (meets_map_new l xs) ⟨hl, ?_⟩
  have z1 : (s.heap.push { cls := .type "list_iterator", data := .fields #[.ref l, .int 0 0] }).objs.size = s.heap.objs.size + 1 := Heap.size_push ..
  have z2 : ((s.heap.push { cls := .type "list_iterator", data := .fields #[.ref l, .int 0 0] }).push { cls := .type "tuple", data := .seq #[.ref s.heap.objs.size] }).objs.size = s.heap.objs.size + 2 := by rw [Heap.size_push, z1]
  refine ⟨⟨_, Heap.get?_push_size _ rfl, rfl⟩, h _ _ _ (fun b o e => Heap.get?_push_of_some _ (Heap.get?_push_of_some _ (Heap.get?_push_of_some _ e))) (Nat.le_refl _) (by rw [z2]; omega) ⟨?_, ?_⟩⟩
  · exact ⟨_, Heap.get?_push_of_some _ (Heap.get?_push_of_some _ (Heap.get?_push_size _ rfl)), rfl, rfl⟩
  · refine ⟨_, Heap.get?_push_of_some _ (Heap.get?_push_size _ rfl), Heap.get?_push_size _ rfl, ?_, ?_⟩
    · rw [z1]; exact Nat.ne_of_gt (Nat.lt_succ_self _)
    · rw [z2]; exact Nat.ne_of_gt (Nat.lt_add_of_pos_right (by decide))
theorem MapAt.type {h : Heap} {a it l : Addr} {i : Nat} (x : MapAt h a it l i) : ({ s with heap := h } : Shared).TypeIs (.ref a) "map" := by
  obtain ⟨_, tup, _, h2, _⟩ := x
  exact ⟨_, h2, rfl⟩
theorem MapAt.next {h h' : Heap} {a it l : Addr} {i j : Nat} (x : MapAt h a it l i) (hs : ∀ b o, b ≠ it → h.get? b = some o → h'.get? b = some o) (hi : h'.IsListIter it l j) : MapAt h' a it l j := by
  obtain ⟨_, tup, h1, h2, h3, h4⟩ := x
  exact ⟨hi, tup, hs _ _ h3 h1, hs _ _ h4 h2, h3, h4⟩
theorem map_next_item {a it l : Addr} {i : Nat} {items : Array Value} {x : PySem.Str} {t : Tok} {n : Int} {Q : Option Value → Shared → Prop} (hm : MapAt s.heap a it l i) (hl : s.heap.IsList l items) (hx : items[i]? = some (.str x t)) (hn : PySem.intText? x = some n) (hz : x.length ≤ 640)
    (hQ : ∀ h' t' k, MapAt h' a it l (i + 1) → Heap.SameBut it s.heap h' → Q (some (.int n t')) { s with heap := h', toks := k }) :
    wpAny (model prog w) A (pyNext (.ref a)) Q E s := by
  have hT : s.TypeIs (.ref a) "map" := hm.type (s := s)
  obtain ⟨hit, tup, h1, h2, h3, h4⟩ := id hm
  unfold pyNext
  refine wpAny_bind (wpAny_attempt (wpAny_callSpecial?_slot (name := PySem.Str.ofString "__next__") hT slot_map_next (wpAny_call_entry slot_map_next hT entry_map_next ?_ (args_map_next _))))
  show wpAny _ _ (field (.ref a) 0 >>= _) _ _ s
  refine wpAny_bind (wpAny_field h2 rfl (x := .ref tup) rfl ?_)
  refine wpAny_bind (wpAny_seqItems h1 rfl ?_)
  dsimp only
  simp only [List.forIn_toArray, List.forIn_cons, List.forIn_nil]
  refine wpAny_bind (wpAny_bind (wpAny_bind (wpAny_holding (wpAny_nextOf_list_item hit hl hx fun h' hit' hs => wpAny_pure (wpAny_pure ?_)))))
  have hm' := hm.next hs.extBut hit'
  obtain ⟨_, tup', g1, g2, g3, g4⟩ := id hm'
  refine wpAny_bind (wpAny_field g2 rfl (x := .type "int") rfl ?_)
  refine wpAny_bind (wpAny_holding ?_)
  refine KIN.call_text hn hz ?_
  refine wpAny_bind (wpAny_letGo (wpAny_pure ⟨_, rfl, wpAny_pure (hQ _ _ _ hm' hs)⟩))
theorem sub_stop_value : isSubtype (.type "ValueError") (.type "StopIteration") = pure false := by rw [isSubtype_type]; kernel_rfl
theorem map_next_err {a it l : Addr} {i : Nat} {items : Array Value} {x : PySem.Str} {t : Tok} {Q : Option Value → Shared → Prop} (hh : A.handled = none) (hm : MapAt s.heap a it l i) (hl : s.heap.IsList l items) (hx : items[i]? = some (.str x t)) (hn : PySem.intText? x = none) (hz : x.length ≤ 640)
    (hc : ∀ c ∈ x.cps.toList, 48 ≤ c ∧ c < 128)
    (hE : ∀ h1 h' e k args, Heap.SameBut it s.heap h1 → Heap.MadeExc h1 h' e "ValueError" args → E (.ref e) { s with heap := h', toks := k }) :
    wpAny (model prog w) A (pyNext (.ref a)) Q E s := by
  have hT : s.TypeIs (.ref a) "map" := hm.type (s := s)
  obtain ⟨hit, tup, h1, h2, h3, h4⟩ := id hm
  unfold pyNext
  refine wpAny_bind (wpAny_attempt (wpAny_callSpecial?_slot (name := PySem.Str.ofString "__next__") hT slot_map_next ?_))
  refine wpAny_call (codeAny_call_builtin_own (plainId_quiet slot_map_next.plain _) entry_map_next ?_)
  refine slot_map_next.check _ _ _ _ _ _ _ _ hT (args_map_next _) ?_
  refine wpS_own (S := Blocked) (fun l => blocked_map _ l) ?_
  rw [Around.under_plainId slot_map_next.plain]
  show wpS _ _ _ (field (.ref a) 0 >>= _) _ _ s
  refine wpS_bind (wpS_any (wpAny_field h2 rfl (x := .ref tup) rfl ?_))
  refine wpS_bind (wpS_any (wpAny_seqItems h1 rfl ?_))
  dsimp only
  simp only [List.forIn_toArray, List.forIn_cons, List.forIn_nil]
  refine wpS_bind (wpS_any (wpAny_bind (wpAny_bind (wpAny_holding (wpAny_nextOf_list_item hit hl hx fun h' hit' hs => wpAny_pure (wpAny_pure ?_))))))
  have hm' := hm.next hs.extBut hit'
  obtain ⟨_, tup', g1, g2, g3, g4⟩ := id hm'
  refine wpS_bind (wpS_any (wpAny_field g2 rfl (x := .type "int") rfl ?_))
  refine wpS_bind (wpS_holding ?_)
  refine wpS_mono (type_call_refuses (s := { s with heap := h' }) hh hz hn hc ?_) (fun _ _ x => x.elim) (fun _ _ x => x)
  intro h2 k e args hx
  dsimp only
  obtain ⟨t', ht', _⟩ := hx.there
  refine wpAny_bind (wpAny_isInstance (T := "ValueError") (b := false) ⟨_, ht', rfl⟩ sub_stop_value ?_)
  exact wpAny_throw (hE h' h2 e k args hs hx)
theorem map_next_end {a it l : Addr} {i : Nat} {items : Array Value} {Q : Option Value → Shared → Prop} (hh : A.handled = none) (hm : MapAt s.heap a it l i) (hl : s.heap.IsList l items) (hx : items[i]? = none)
    (hQ : ∀ h', Heap.ExtBut it s.heap h' → Q none { s with heap := h' }) :
    wpAny (model prog w) A (pyNext (.ref a)) Q E s := by
  have hT : s.TypeIs (.ref a) "map" := hm.type (s := s)
  obtain ⟨hit, tup, h1, h2, h3, h4⟩ := id hm
  unfold pyNext
  refine wpAny_bind (wpAny_attempt (wpAny_callSpecial?_slot (name := PySem.Str.ofString "__next__") hT slot_map_next (wpAny_call_entry slot_map_next hT entry_map_next ?_ (args_map_next _))))
  show wpAny _ _ (field (.ref a) 0 >>= _) _ _ s
  refine wpAny_bind (wpAny_field h2 rfl (x := .ref tup) rfl ?_)
  refine wpAny_bind (wpAny_seqItems h1 rfl ?_)
  dsimp only
  simp only [List.forIn_toArray, List.forIn_cons, List.forIn_nil]
  refine wpAny_bind (wpAny_bind (wpAny_bind (wpAny_holding (wpAny_nextOf_list_end (A := A.in1) hh hit hl hx fun h' e hs he => ?_))))
  obtain ⟨o, ho, hc⟩ := he
  refine wpAny_bind (wpAny_isInstance (T := "StopIteration") (b := true) ⟨o, ho, hc⟩ isSubtype_stop ?_)
  exact wpAny_pure (hQ h' hs)
theorem map_iter {a it l : Addr} {i : Nat} {Q : Value → Shared → Prop} (hm : MapAt s.heap a it l i) (hQ : Q (.ref a) s) : wpAny (model prog w) A (pyIter (.ref a)) Q E s := by
  have hT : s.TypeIs (.ref a) "map" := hm.type (s := s)
  refine wpAny_pyIter_slot hT slot_map_iter (wpAny_call_entry slot_map_iter hT entry_map_iter ?_ (args_map_iter _))
  exact wpAny_pure ⟨_, rfl, "map", _, hT, slot_map_next.lookup, hQ⟩
theorem not_iter {a it l : Addr} {i : Nat} {Q : Bool → Shared → Prop} (hm : MapAt s.heap a it l i) (hQ : Q false s) : wpAny (model prog w) A (notIterableAtAll (.ref a)) Q E s := by
  unfold notIterableAtAll
  refine wpAny_bind (wpAny_specialOf (hm.type (s := s)) slot_map_iter.lookup ?_)
  exact wpAny_pure hQ
theorem unpack_map_ok {a it l : Addr} {x y : PySem.Str} {t u : Tok} {m n : Int} {Q : List Value → Shared → Prop} (hh : A.handled = none) (hm : MapAt s.heap a it l 0) (hl : s.heap.IsList l #[.str x t, .str y u]) (hli : l ≠ it)
    (hx : PySem.intText? x = some m) (hy : PySem.intText? y = some n) (hzx : x.length ≤ 640) (hzy : y.length ≤ 640)
    (hQ : ∀ h' t1 t2 k, Heap.ExtBut it s.heap h' → Q [.int m t1, .int n t2] { s with heap := h', toks := k }) :
    wpAny (model prog w) A (unpackItems (.ref a) 2 none) Q E s := by
  unfold unpackItems
  refine wpAny_bind (not_iter hm ?_)
  rw [if_neg Bool.false_ne_true]
  refine wpAny_bind (wpAny_holding (map_iter hm ?_))
  dsimp only
  refine wpAny_bind (wpAny_holding ?_)
  unfold draw
  refine wpAny_bind (map_next_item hm hl rfl hx hzx fun h1 t1 k1 hm1 hs1 => ?_)
  dsimp only
  refine wpAny_bind (wpAny_holding ?_)
  have hl1 : h1.IsList l #[.str x t, .str y u] := hl.extBut hs1.extBut hli
  unfold draw
  refine wpAny_bind (map_next_item (s := { s with heap := h1, toks := k1 }) hm1 hl1 rfl hy hzy fun h2 t2 k2 hm2 hs2 => ?_)
  dsimp only
  have hl2 : h2.IsList l #[.str x t, .str y u] := hl1.extBut hs2.extBut hli
  unfold draw
  refine wpAny_bind (wpAny_holding (wpAny_pure (wpAny_pure (wpAny_pure ?_))))
  rw [if_neg (by simp)]
  refine wpAny_bind (wpAny_holding (map_next_end (s := { s with heap := h2, toks := k2 }) hh hm2 hl2 rfl fun h3 hs3 => ?_))
  rw [if_neg (by simp)]
  exact wpAny_pure (hQ h3 t1 t2 k2 (fun b o hb e => hs3 b o hb (hs2.extBut b o hb (hs1.extBut b o hb e))))
theorem unpack_map_err1 {a it l : Addr} {x y : PySem.Str} {t u : Tok} {Q : List Value → Shared → Prop} (hh : A.handled = none) (hm : MapAt s.heap a it l 0) (hl : s.heap.IsList l #[.str x t, .str y u])
    (hx : PySem.intText? x = none) (hzx : x.length ≤ 640) (hcx : ∀ c ∈ x.cps.toList, 48 ≤ c ∧ c < 128)
    (hE : ∀ h1 h' e k args, Heap.ExtBut it s.heap h1 → Heap.MadeExc h1 h' e "ValueError" args → E (.ref e) { s with heap := h', toks := k }) :
    wpAny (model prog w) A (unpackItems (.ref a) 2 none) Q E s := by
  unfold unpackItems
  refine wpAny_bind (not_iter hm ?_)
  rw [if_neg Bool.false_ne_true]
  refine wpAny_bind (wpAny_holding (map_iter hm ?_))
  dsimp only
  refine wpAny_bind (wpAny_holding ?_)
  unfold draw
  exact wpAny_bind (map_next_err hh hm hl rfl hx hzx hcx fun h1 h' e k args hs hM => hE h1 h' e k args hs.extBut hM)
theorem unpack_map_err2 {a it l : Addr} {x y : PySem.Str} {t u : Tok} {m : Int} {Q : List Value → Shared → Prop} (hh : A.handled = none) (hm : MapAt s.heap a it l 0) (hl : s.heap.IsList l #[.str x t, .str y u]) (hli : l ≠ it)
    (hx : PySem.intText? x = some m) (hy : PySem.intText? y = none) (hzx : x.length ≤ 640) (hzy : y.length ≤ 640) (hcy : ∀ c ∈ y.cps.toList, 48 ≤ c ∧ c < 128)
    (hE : ∀ h1 h' e k args, Heap.ExtBut it s.heap h1 → Heap.MadeExc h1 h' e "ValueError" args → E (.ref e) { s with heap := h', toks := k }) :
    wpAny (model prog w) A (unpackItems (.ref a) 2 none) Q E s := by
  unfold unpackItems
  refine wpAny_bind (not_iter hm ?_)
  rw [if_neg Bool.false_ne_true]
  refine wpAny_bind (wpAny_holding (map_iter hm ?_))
  dsimp only
  refine wpAny_bind (wpAny_holding ?_)
  unfold draw
  refine wpAny_bind (map_next_item hm hl rfl hx hzx fun h1 t1 k1 hm1 hs1 => ?_)
  dsimp only
  have hl1 : h1.IsList l #[.str x t, .str y u] := hl.extBut hs1.extBut hli
  refine wpAny_bind (wpAny_holding ?_)
  unfold draw
  exact wpAny_bind (map_next_err (s := { s with heap := h1, toks := k1 }) hh hm1 hl1 rfl hy hzy hcy fun h2 h' e k args hs hM => hE h2 h' e k args (fun b o hb e => hs.extBut b o hb (hs1.extBut b o hb e)) hM)
end
end Mine
end
section
open PySem PySem.W PyProof.Rows PySem.Calls
set_option maxRecDepth 100000
set_option maxHeartbeats 8000000
namespace Mine
theorem fr_none {h₀ h : Heap} {L I : Addr} {m : Str → Option Value} (F : Fr h₀ L h m) (hle : h.objs.size ≤ I) : h₀.get? I = none :=
  Heap.get?_none_of_le (Nat.le_trans (Nat.le_trans F.above (Nat.le_of_lt F.ns.lt)) hle)
theorem fr_ne {h₀ h : Heap} {L I : Addr} {m : Str → Option Value} (F : Fr h₀ L h m) (hle : h.objs.size ≤ I) : L ≠ I := Nat.ne_of_lt (Nat.lt_of_lt_of_le F.ns.lt hle)
theorem news_ne {h₀ h : Heap} {L I : Addr} {news : List (Addr × Obj)} (N : News h₀ L h news) (hle : h.objs.size ≤ I) : ∀ p ∈ news, p.1 ≠ I := fun p hp => Nat.ne_of_lt (Nat.lt_of_lt_of_le (Heap.lt_size (N p hp).1) hle)
section
variable {prog : Program} {w : World} {A₀ : Around} {E : Value → Shared → Prop} {s' : Shared} {h₀ h : Heap} {outer : List Env} {L a e : Addr} {m : Str → Option Value} {name : Str} {scope : Scope} {cd : Value}
  {b₀ : Stmt} {suite : List Stmt} {pos np : Pos} {rest : List ExceptHandler} {Q : Flow → Shared → Prop} {news : List (Addr × Obj)}
  {p : Program} {loose : List Str} {mg mb : Str → Option Value}
/-- a ValueError that a callee raised, caught by the frame's own clause -/
theorem caughtE (hK : A₀.frames = some outer) (F : Fr h₀ L h m) (hsm : h.UpToSlots s'.heap) (R : RaisedN h₀ (envOf name scope L a cd :: outer) e (.type "ValueError") news s'.heap)
    (T : TopRead p loose mg mb h₀)
    (k : ∀ h', Fr h₀ L h' m → News h₀ L h' news → h.UpToSlots h' →
      wpAny (model prog w) ((A₀.deeper (envOf name scope L a cd)).mark (some (.ref e))) (execs (b₀ :: suite) (envOf name scope L a cd)) Q E { s' with heap := h' })
    (h2 : (Str.ofString "ValueError") ∉ loose) (h3 : (Str.ofString "ValueError") ∉ (recsOf p).map (·.name)) (h4 : (Str.ofString "ValueError") ∉ (litsOf p).map (·.1)) (h4c : (Str.ofString "ValueError") ∉ (clssOf p loose).map (·.name))
    (hk : scope.kind = .function) (hx : (envOf name scope L a cd).kindOf (Str.ofString "ValueError") = some .globalImplicit)
    (hE : PassesOwnAt (model prog w) ((A₀.deeper (envOf name scope L a cd)).mark (some (.ref e))) (A₀.deeper (envOf name scope L a cd)) (envOf name scope L a cd) E) :
    wpAny (model prog w) (A₀.deeper (envOf name scope L a cd)) (noteFrame (.ref e) (envOf name scope L a cd))
      (fun _ s₂ => wpAny (model prog w) (A₀.deeper (envOf name scope L a cd)) (setFlight (.ref e) none) (fun _ s₃ =>
        wpAny (model prog w) (A₀.deeper (envOf name scope L a cd)) (handleBy (.ref e) (envOf name scope L a cd) (.ExceptHandler (some (.Name (Str.ofString "ValueError") np)) none (b₀ :: suite) pos :: rest)) Q E s₃) E s₂) E s' := by
  obtain ⟨B, a0, hB, hl, hfl⟩ := R
  have hL : B.get? L = none := by
    obtain ⟨_, ⟨L', _, hf, hn', _⟩, _⟩ := hfl.2.2.1
    obtain rfl : L = L' := Option.some.inj hf
    exact hn'
  refine wpAny_looks_onW (Around.frames_deeper hK) rfl hfl fun h₄ hheld₄ hsm₄ => ?_
  refine wpAny_landsW hheld₄ fun h₅ hheld hsm₅' => ?_
  have hsm₅ := hsm₄.trans hsm₅'
  have hheld' := flyingW_base hB hheld
  have F₅ := F.of_stays hheld'.1 (hsm.trans hsm₅)
  obtain ⟨ob, hob, hobc⟩ := hheld'.there
  refine wpAny_handleBy_builtin (X := "ValueError") (T := "ValueError") (b := true) PySem.F.isExc_ValueError PySem.F.notTuple_ValueError (by rw [isSubtype_type]; kernel_rfl)
    (ld_builtin_at F₅ T.g (T.free _ (by decide +kernel) h2 h3 h4 h4c) T.b ((T.builtins _ (by decide +kernel)).trans PyProof.Rows.Boot.«ValueError») ⟨rfl, ⟨ob, hob, hobc⟩, ?_⟩ hk hx (by decide))
  refine lands_againW hheld fun h₆ hfl₆ hsm₆ => ?_
  have F₆ := F.of_stays (flyingW_base hB hfl₆).1 ((hsm.trans hsm₅).trans hsm₆)
  exact wpAny_passesOwnAt hE (k h₆ F₆ (fun q hq => ⟨hfl₆.1 _ _ (hl q hq).1, (fun z => by have := (hl q hq).1; rw [z, hL] at this; cases this), (hl q hq).2⟩) ((hsm.trans hsm₅).trans hsm₆))
end
theorem unpack_map_err {prog : Program} {w : World} {A : Around} {E : Value → Shared → Prop} {s : Shared} {a it l : Addr} {x y : Str} {t u : Tok} {Q : List Value → Shared → Prop} (hh : A.handled = none) (hm : MapAt s.heap a it l 0) (hl : s.heap.IsList l #[.str x t, .str y u]) (hli : l ≠ it)
    (hbad : PySem.intText? x = none ∨ PySem.intText? y = none) (hzx : x.length ≤ 640) (hzy : y.length ≤ 640) (hcx : ∀ c ∈ x.cps.toList, 48 ≤ c ∧ c < 128) (hcy : ∀ c ∈ y.cps.toList, 48 ≤ c ∧ c < 128)
    (hE : ∀ h1 h' e k args, Heap.ExtBut it s.heap h1 → Heap.MadeExc h1 h' e "ValueError" args → E (.ref e) { s with heap := h', toks := k }) :
    wpAny (model prog w) A (unpackItems (.ref a) 2 none) Q E s := by
  cases ex : PySem.intText? x with
  | none => exact unpack_map_err1 hh hm hl ex hzx hcx hE
  | some m =>
    rcases hbad with h | h
    · rw [ex] at h; cases h
    · exact unpack_map_err2 hh hm hl hli ex h hzx hzy hcy hE
theorem hide_stays {h₀ h : Heap} {L : Addr} {m : Str → Option Value} (F : Fr h₀ L h m) : ∀ b o, h₀.get? b = some o → (h.hide L).get? b = some o := fun b o e =>
  (Heap.hide_ne h (Nat.ne_of_lt (Nat.lt_of_lt_of_le (Heap.lt_size e) F.above))).trans (F.keep b o e)
section
variable {w : World} {mean : ExcName → Option Value} {mg mb : Str → Option Value} {s : Shared} {E : Value → Shared → Prop} {Q : Value → Shared → Prop}
theorem told_call {cn : Str} {cs : Scope} {L a : Addr} {ccd : Value} {h₀ : Heap} {m : Str → Option Value} {news : List (Addr × Obj)} {x y : Str} {t : Tok} (W : Ground0 w mean mg mb h₀) (F : Fr h₀ L s.heap m) (N : News h₀ L s.heap news) (hck : cs.kind = .function)
    (hx : ∀ c ∈ x.cps.toList, HexC c) (hy : ∀ c ∈ y.cps.toList, HexC c) (hlx : x.length ≤ 200) (hly : y.length ≤ 200)
    (hok : ∀ i j, PySem.intText? x = some i → PySem.intText? y = some j → ∀ h' k a' n' t1 t2, Fr h₀ L h' m → News h₀ L h' ((a', { cls := .type "tuple", data := .seq #[.int i t1, .int j t2] n' }) :: news) → (∀ p ∈ news, p.1 ≠ a') → Q (.ref a') { s with heap := h', toks := k })
    (hno : PySem.intText? x = none ∨ PySem.intText? y = none → ∀ h' k t', Fr h₀ L h' m → News h₀ L h' news → Q (.str (Str.ofString "refused") t') { s with heap := h', toks := k }) :
    wpAny (model PR w) (callerA.deeper (envOf cn cs L a ccd)) (call (.ref 151) [.str (x ++ Str.ofString "." ++ y) t]) Q E s := by
  delta PR
  have W2 := W.keeps (hide_stays F)
  have W' := W.keeps F.keep
  obtain ⟨X, T⟩ := W'
  have X' := X
  revert X'
  k_fill
  intro _
  w_top on
  have B' : Below (callerA.deeper (envOf cn cs L a ccd)) (s.heap.hide L) [envOf cn cs L a ccd] s.heap :=
    ⟨rfl, fun b o e => Heap.of_hide e, .cons (by show cs.kind ≠ .module; rw [hck]; decide) rfl F.ns (Heap.hide_self _ _) trivial⟩
  refine enterR (binds := [(Str.ofString "text", .str (x ++ Str.ofString "." ++ y) t)]) ⟨X, T⟩ (Nat.le_of_ble_eq_true rfl) (by k_is) (by k_is) (by first | exact BindsTo.of_eq rfl | exact binds_K (by k_in) rfl (by k_is) rfl rfl rfl) (locs rfl) ?_ rfl rfl rfl (by decide)
  intro h₁ F' N'
  k_fold
  k_steps
  have dx : 46 ∉ x.cps.toList := fun h => by have := hx _ h; unfold HexC at this; omega
  have dy : 46 ∉ y.cps.toList := fun h => by have := hy _ h; unfold HexC at this; omega
  have hxy : ∀ c ∈ (x ++ Str.ofString "." ++ y).cps, c < 256 := fun c hc => by
    have hc' : c ∈ x.cps ++ (Str.ofString ".").cps ++ y.cps := hc
    rcases Array.mem_append.mp hc' with h | h
    · rcases Array.mem_append.mp h with h | h
      · have := hx c (Array.mem_toList_iff.mpr h); unfold HexC at this; omega
      · have e2 : (Str.ofString ".").cps = #[46] := by decide +kernel
        rw [e2] at h
        have : c = 46 := by simpa using h
        omega
    · have := hy c (Array.mem_toList_iff.mpr h); unfold HexC at this; omega
  (rename (List.map _ _ = Txt.split _ _) => hsp)
  rw [split_dot x y dx dy hxy] at hsp
  (rename List (Str × Tok) => lst)
  obtain ⟨t1, t2, rfl⟩ : ∃ t1 t2, lst = [(x, t1), (y, t2)] := by
    match lst, hsp with
    | [(_, t1), (_, t2)], h => simp at h; obtain ⟨rfl, rfl⟩ := h; exact ⟨t1, t2, rfl⟩
  clear hsp
  (rename Heap.IsList _ _ _ => hL9)
  (rename Fr _ _ _ _ => F9)
  (rename News _ _ _ _ => N9)
  refine map_call hL9 ?_
  intro h2 am itm gr hle1 hle2 hM
  have F2 := Fr.keptAll F9 gr
  have N2 := News.grown N9 gr
  have hL2 : h2.IsList _ #[.str x t1, .str y t2] := stays_list gr hL9
  have hI0 := fr_none F9 hle1
  have hLI := fr_ne F9 hle1
  have hoff := news_ne N9 hle1
  have hlI := hoff _ (List.Mem.head _)
  clear F9 N9 hL9
  rw [assign_Tuple]
  refine wpAny_bind (wpAny_standAt ?_)
  unfold unpack
  refine wpAny_bind (wpAny_holding ?_)
  show wpAny _ _ (unpackItems (.ref am) 2 none) _ _ _
  have cx : ∀ c ∈ x.cps.toList, 48 ≤ c ∧ c < 128 := fun c hc => by have := hx c hc; unfold HexC at this; omega
  have cy : ∀ c ∈ y.cps.toList, 48 ≤ c ∧ c < 128 := fun c hc => by have := hy c hc; unfold HexC at this; omega
  by_cases hbad : PySem.intText? x = none ∨ PySem.intText? y = none
  · refine unpack_map_err rfl hM hL2 hlI hbad (by omega) (by omega) cx cy ?_
    intro h3 h4 e k args hb hE
    have F3 := LCg.fr_but F2 (fun b o hb' => hb b o (by simpa using hb')) hLI hI0
    have N3 := LCg.news_but N2 (fun b o hb' => hb b o (by simpa using hb')) hoff
    clear F2 N2 hL2 hM
    have hE' := hE.newExc
    k_steps
    (rename RaisedN _ _ _ _ _ _ => R9)
    (rename Heap.UpToSlots _ _ => U9)
    (rename Fr s.heap _ _ _ => FG9)
    have FB := (⟨FG9.ns, fun b o q => FG9.keep b o (Heap.of_hide q), Nat.le_of_eq (Heap.hide_size _ _)⟩ : Fr (s.heap.hide L) _ _ _)
    refine caughtE rfl FB U9 R9 (topRead_of W2.T) ?_ (by decide +kernel) (by decide +kernel) (by decide +kernel) (by decide +kernel) rfl rfl (by passes_own)
    intro h5 F5 N5 U5
    have hUU : s.heap.UpToSlots h5 := (Heap.UpToSlots.of_keeps FG9.keep).trans U5
    clear R9 U9 FB N5 N3 F3
    k_steps
    exact hno hbad _ _ _ (F.of_stays (fun b o e => F5.keep b o (hide_stays F b o e)) hUU) (fun p hp => ⟨F5.keep _ _ ((Heap.hide_ne _ (N p hp).2.1).trans (N p hp).1), (N p hp).2⟩)
  · obtain ⟨i, ei⟩ : ∃ i, PySem.intText? x = some i := by
      cases q : PySem.intText? x with
      | none => exact absurd (.inl q) hbad
      | some i => exact ⟨i, rfl⟩
    obtain ⟨j, ej⟩ : ∃ j, PySem.intText? y = some j := by
      cases q : PySem.intText? y with
      | none => exact absurd (.inr q) hbad
      | some j => exact ⟨j, rfl⟩
    refine unpack_map_ok rfl hM hL2 hlI ei ej (by omega) (by omega) ?_
    intro h3 u1 u2 k3 hb
    have F3 := LCg.fr_but F2 (fun b o hb' => hb b o (by simpa using hb')) hLI hI0
    have N3 := LCg.news_but N2 (fun b o hb' => hb b o (by simpa using hb')) hoff
    clear F2 N2 hL2 hM
    show wpAny _ _ (holding _ (assign _ _ _) >>= fun _ => _) _ _ _
    refine wpAny_bind (wpAny_holding ?_)
    k_steps
    (rename News s.heap _ _ _ => N9)
    (rename Fr s.heap _ _ _ => F9)
    have e := N9 _ (List.Mem.head _)
    refine hok i j ei ej _ _ _ 0 u1 u2 (F.keptAll F9.keep) (fun p hp => ?_) (fun p hp q => ?_)
    · rcases List.mem_cons.mp hp with rfl | hp
      · refine ⟨e.1, fun q => ?_, ?_⟩
        · obtain ⟨oL, _, _, hL, _⟩ := F.ns
          have := e.2.2
          rw [q, hL] at this; cases this
        · cases q : h₀.get? _ with
          | none => rfl
          | some o => have := e.2.2; rw [F.keep _ _ q] at this; cases this
      · exact ⟨F9.keep _ _ (N p hp).1, (N p hp).2⟩
    · have := e.2.2
      rw [← q, (N p hp).1] at this; cases this
end
end Mine
end
section
open PySem PySem.W PyProof.Rows PySem.Calls
set_option maxRecDepth 100000
set_option maxHeartbeats 8000000
namespace Mine
theorem news_add {h₀ h h' : Heap} {L a : Addr} {o : Obj} {m : Str → Option Value} {news : List (Addr × Obj)} (F : Fr h₀ L h m) (N : News h₀ L h news) (gr : Grown h h') (e : h'.get? a = some o) (hn : h.get? a = none) : News h₀ L h' ((a, o) :: news) := fun p hp => by
  rcases List.mem_cons.mp hp with rfl | hp
  · refine ⟨e, fun q => ?_, ?_⟩
    · obtain ⟨oL, _, _, hL, _⟩ := F.ns
      rw [show (a : Addr) = L from q, hL] at hn; cases hn
    · cases q : h₀.get? a with
      | none => rfl
      | some o' => rw [F.keep _ _ q] at hn; cases hn
  · exact ⟨gr _ _ (N p hp).1, (N p hp).2⟩
def AllNe (a : Nat) : List (Addr × Obj) → Prop
  | [] => True
  | p :: r => @Ne Nat p.1 a ∧ AllNe a r
theorem news_off {h₀ h : Heap} {L a : Addr} : ∀ {news : List (Addr × Obj)}, News h₀ L h news → h.get? a = none → AllNe a news
  | [], _, _ => trivial
  | p :: r, N, hn => by
    refine ⟨fun e => ?_, news_off (fun q hq => N q (List.mem_cons_of_mem _ hq)) hn⟩
    have h1 := (N p (List.mem_cons_self ..)).1
    have e' : p.1 = a := e
    rw [e', hn] at h1
    exact nomatch h1
section
variable {prog : Program} {w : World} {A : Around} {E : Value → Shared → Prop} {s : Shared} {env : Env} {h₀ : Heap} {x : Str} {body : List Stmt} {Q : Flow → Shared → Prop}
def BaseRest (prog : Program) (w : World) (A : Around) (E : Value → Shared → Prop) (h₀ : Heap) (env : Env) (x : Str) (body : List Stmt) (Q : Flow → Shared → Prop) (s : Shared) (I : Addr) : List Value → (Str → Option Value) → List (Addr × Obj) → Prop
  | [], m, news => ∀ h tk, Fr h₀ env.locals h m → News h₀ env.locals h news → Q .next { s with heap := h, toks := tk }
  | v :: r, m, news => ∀ (it : Obj) h tk, it.cls = .type "list_iterator" → Fr h₀ env.locals h (fun y => if y = x then some v else m y) → News h₀ env.locals h ((I, it) :: news) →
      wpAny (model prog w) A (execs body env) (UnrPost h₀ env.locals { s with heap := h, toks := tk } I it (fun m' n' => (0 : Nat) ∈ [0] ∧ BaseRest prog w A E h₀ env x body Q s I r m' n') Q) E { s with heap := h, toks := tk }
theorem BaseRest.zero {I : Addr} {m : Str → Option Value} {news : List (Addr × Obj)} (h : ∀ h tk, Fr h₀ env.locals h m → News h₀ env.locals h news → Q .next { s with heap := h, toks := tk }) :
    BaseRest prog w A E h₀ env x body Q s I [] m news := h
theorem BaseRest.succ {I : Addr} {v : Value} {r : List Value} {m : Str → Option Value} {news : List (Addr × Obj)}
    (h : ∀ (it : Obj) h tk, it.cls = .type "list_iterator" → Fr h₀ env.locals h (fun y => if y = x then some v else m y) → News h₀ env.locals h ((I, it) :: news) →
      wpAny (model prog w) A (execs body env) (UnrPost h₀ env.locals { s with heap := h, toks := tk } I it (fun m' n' => (0 : Nat) ∈ [0] ∧ BaseRest prog w A E h₀ env x body Q s I r m' n') Q) E { s with heap := h, toks := tk }) :
    BaseRest prog w A E h₀ env x body Q s I (v :: r) m news := h
theorem iter_baseUnr {ax : Addr} {vs : List Value} {m₀ : Str → Option Value} {news : List (Addr × Obj)}
    (hh : A.handled = none) (F : Fr h₀ env.locals s.heap m₀) (N : News h₀ env.locals s.heap news) (hb : h₀.IsList ax vs.toArray)
    (rest₀ : ∀ I : Addr, (∀ p ∈ news, p.1 < I) → BaseRest prog w A E h₀ env x body Q s I vs m₀ news) :
    wpAny (model prog w) A (pyIter (.ref ax)) (fun it s₂ => LoopAtV prog w A h₀ env x body Q E it s₂) E s := by
  have hl : s.heap.IsList ax vs.toArray := hb.at fun o e => F.keep ax o e
  obtain ⟨ol, hol, _⟩ := id hb
  have hlt0 : ax < h₀.objs.size := Heap.lt_size hol
  have hne : ax ≠ s.heap.objs.size := Nat.ne_of_lt (Nat.lt_trans (Nat.lt_of_lt_of_le hlt0 F.above) F.ns.lt)
  refine wpAny_pyIter_list hl ?_
  have rest := rest₀ s.heap.objs.size fun p hp => Heap.lt_size (N p hp).1
  have W := Walks.list (prog := prog) (w := w) hh s.heap.objs.size ax hne vs.toArray
  have hnew := next_is_new F
  have hlen : vs.toArray.size = vs.length := by simp
  rw [hlen] at W
  let J : Nat → (Str → Option Value) → List (Addr × Obj) → Prop := fun i m₁ news₁ => BaseRest prog w A E h₀ env x body Q s s.heap.objs.size (vs.drop i) m₁ news₁
  refine ⟨_, _, _, vs.length, _, _, m₀, news, J, rfl, W, ?_, ?_, ?_, ⟨⟨_, Heap.get?_push_size _ rfl, rfl, rfl⟩, hl.at fun o e => Heap.get?_push_of_some _ e⟩, F.push _, (fun p hp => ⟨Heap.get?_push_of_some _ (N p hp).1, (N p hp).2⟩), (by show BaseRest _ _ _ _ _ _ _ _ _ _ _ (vs.drop 0) _ _; rw [List.drop_zero]; exact rest), ?_, ?_⟩
  · intro hmm
    rcases List.mem_cons.mp hmm with e | hmm
    · exact absurd F.ns.lt (e ▸ Nat.lt_irrefl _)
    · exact absurd (Nat.lt_of_lt_of_le hlt0 F.above) ((List.mem_singleton.mp hmm) ▸ Nat.lt_irrefl _)
  · intro b hb
    rw [List.mem_singleton.mp hb]
    exact hnew
  · intro p hp hI
    exact absurd (Heap.lt_size (N p hp).1) ((List.mem_singleton.mp hI) ▸ Nat.lt_irrefl _)
  · rintro i v m₁ news₁ s₁ own ⟨hh', tk', rfl⟩ hin hP hJ hoff hown hget hall hst F₁ N₁
    obtain ⟨it, hit, hic, hid⟩ := hst.1
    have hmemI := hall s.heap.objs.size (List.mem_cons_self ..) hnew _ hit
    have hdrop : vs.drop i = v :: vs.drop (i + 1) := by
      have hlt' : i < vs.length := hin
      have hv : vs[i]? = some v := by simpa using hP
      rw [List.drop_eq_getElem_cons hlt']
      congr 1
      exact Option.some.inj ((List.getElem?_eq_getElem hlt').symm.trans hv)
    have hJ' : BaseRest prog w A E h₀ env x body Q s s.heap.objs.size (v :: vs.drop (i + 1)) m₁ news₁ := by rw [← hdrop]; exact hJ
    have N₂ : News h₀ env.locals hh' ((s.heap.objs.size, it) :: news₁) := fun p hp => by
      rcases List.mem_cons.mp hp with rfl | hp
      · exact N₁ _ (List.mem_append_left _ hmemI)
      · exact N₁ _ (List.mem_append_right _ hp)
    refine wpAny_mono (hJ' it hh' tk' hic F₁ N₂) (fun f s₂ p => ?_) fun _ _ e => e
    have fin : UnrEnd h₀ env.locals { s with heap := hh', toks := tk' } s.heap.objs.size it (fun m' n' => (0 : Nat) ∈ [0] ∧ BaseRest prog w A E h₀ env x body Q s s.heap.objs.size (vs.drop (i + 1)) m' n') s₂ →
        LoopStepU h₀ env.locals [s.heap.objs.size] own (J (i + 1)) { s with heap := hh', toks := tk' } .next s₂ := by
      rintro ⟨h', tk, m', news', e, F', N', ho, hmm, r⟩
      refine ⟨rfl, h', tk, m', news', e, F', fun p hp => ?_, fun p hp hI => ho p hp (List.mem_singleton.mp hI), r⟩
      rcases List.mem_append.mp hp with hp | hp
      · have h2 : hh'.get? p.1 = some p.2 := hget p hp
        rcases List.mem_cons.mp (hown p hp) with h1 | h1
        · have h3 : p = (s.heap.objs.size, it) := by
            rw [h1, hit] at h2
            exact Prod.ext h1 (Option.some.inj h2).symm
          rw [h3]; exact N' _ (List.mem_cons_self ..)
        · have h1' : p.1 = ax := List.mem_singleton.mp h1
          have h3 := (N₁ _ (List.mem_append_left _ hp)).2.2
          rw [h1', hol] at h3
          cases h3
      · exact N' _ (List.mem_cons_of_mem _ hp)
    cases f with
    | ret v => exact .ret p
    | brk => exact .brk p
    | next => exact .next (fin p)
    | cont => exact .cont (fin p)
  · rintro h' tk m' news' F' N' _ hJ
    have z : vs.drop vs.length = [] := List.drop_length
    have q : BaseRest prog w A E h₀ env x body Q s s.heap.objs.size (vs.drop vs.length) m' news' := hJ
    rw [z] at q
    exact q h' tk F' N'
/-- a loop over range(n) by an invariant over frame and ledger -/
theorem rangeRest_J {I : Addr} {n : Nat} (J : Nat → (Str → Option Value) → List (Addr × Obj) → Prop)
    (turn : ∀ i, i < n → ∀ m news t h tk, J i m news → Fr h₀ env.locals h (fun y => if y = x then some (.int (i : Int) t) else m y) → News h₀ env.locals h ((I, itR ((i + 1 : Nat) : Int) ((n : Int) - ((i + 1 : Nat) : Int))) :: news) →
      wpAny (model prog w) A (execs body env) (UnrPost h₀ env.locals { s with heap := h, toks := tk } I (itR ((i + 1 : Nat) : Int) ((n : Int) - ((i + 1 : Nat) : Int))) (J (i + 1)) Q) E { s with heap := h, toks := tk })
    (done : ∀ m news h tk, J n m news → Fr h₀ env.locals h m → News h₀ env.locals h news → Q .next { s with heap := h, toks := tk }) :
    ∀ k i m news, i + k = n → J i m news → RangeRest prog w A E h₀ env x body Q s I 0 n k i m news
  | 0, i, m, news, e, hj => fun h tk F N => done m news h tk (by have : i = n := by omega
                                                                 rw [← this]; exact hj) F N
  | k + 1, i, m, news, e, hj => fun t h tk F N => by
    have z : ∀ z : Int, (0 : Int) + z = z := Int.zero_add
    rw [z] at F
    rw [z] at N
    refine wpAny_mono (turn i (by omega) m news t h tk hj F N) (fun f s₂ p => ?_) fun _ _ e => e
    have fin : UnrEnd h₀ env.locals { s with heap := h, toks := tk } I (itR ((i + 1 : Nat) : Int) ((n : Int) - ((i + 1 : Nat) : Int))) (J (i + 1)) s₂ → UnrEnd h₀ env.locals { s with heap := h, toks := tk } I (itR (0 + ((i + 1 : Nat) : Int)) ((n : Int) - ((i + 1 : Nat) : Int))) (RangeRest prog w A E h₀ env x body Q s I 0 n k (i + 1)) s₂ := by
      rw [z]
      rintro ⟨h', tk, m', news', e', F', N', ho, r⟩
      exact ⟨h', tk, m', news', e', F', N', ho, rangeRest_J J turn done k (i + 1) m' news' (by omega) r⟩
    cases f with
    | ret v => exact p
    | brk => exact p
    | next => exact fin p
    | cont => exact fin p
theorem iter_rangeJ {r : Addr} {b₀ : Int} {t₀ u₀ v₀ : Tok} {n : Nat} {m₀ : Str → Option Value} {news : List (Addr × Obj)} (J : Nat → (Str → Option Value) → List (Addr × Obj) → Prop)
    (hh : A.handled = none) (hr : IsRange s.heap r 0 b₀ 1 t₀ u₀ v₀) (hb : b₀ = (n : Int)) (hsm : n ≤ 3) (F : Fr h₀ env.locals s.heap m₀) (N : News h₀ env.locals s.heap news) (hj : J 0 m₀ news)
    (turn : ∀ I : Addr, (∀ p ∈ news, p.1 < I) → ∀ i, i < n → ∀ m news t h tk, J i m news → Fr h₀ env.locals h (fun y => if y = x then some (.int (i : Int) t) else m y) → News h₀ env.locals h ((I, itR ((i + 1 : Nat) : Int) ((n : Int) - ((i + 1 : Nat) : Int))) :: news) →
      wpAny (model prog w) A (execs body env) (UnrPost h₀ env.locals { s with heap := h, toks := tk } I (itR ((i + 1 : Nat) : Int) ((n : Int) - ((i + 1 : Nat) : Int))) (J (i + 1)) Q) E { s with heap := h, toks := tk })
    (done : ∀ m news h tk, J n m news → Fr h₀ env.locals h m → News h₀ env.locals h news → Q .next { s with heap := h, toks := tk }) :
    wpAny (model prog w) A (pyIter (.ref r)) (fun it s₂ => LoopAtV prog w A h₀ env x body Q E it s₂) E s := by
  subst hb
  have hc : n = 0 ∨ n = 1 ∨ n = 2 ∨ n = 3 := by omega
  have e1 : Builtin.Range.small 0 (n : Int) 1 = true := by
    rcases hc with rfl | rfl | rfl | rfl <;> decide
  have e2 : Builtin.Range.rangeSize 0 (n : Int) 1 = (n : Int) := by
    rcases hc with rfl | rfl | rfl | rfl <;> decide
  exact iter_rangeUnr hh hr e1 e2 F N fun I hI => rangeRest_J J (turn I hI) done n 0 m₀ news (Nat.zero_add n) hj
end
end Mine
end
section
open PySem PySem.W PyProof.Rows PySem.Calls
set_option maxRecDepth 100000
set_option maxHeartbeats 8000000
namespace Mine
section
variable {w : World} {mean : ExcName → Option Value} {mg mb : Str → Option Value} {s : Shared} {E : Value → Shared → Prop} {Q : Value → Shared → Prop}
local macro_rules | `(tactic| walk_at "call ref") => `(tactic| (k_here; (with_reducible show wpAny _ _ (call (Value.ref 137) [Value.ref _]) _ _ _); (with_reducible rename Fr _ _ _ _ => kF); (with_reducible rename News _ _ _ _ => kN); refine lift rfl (Nat.le_of_ble_eq_true rfl) (Nat.le_of_ble_eq_true rfl) (halves_call (Ground0.keeps (by assumption) (Fr.keep kF)) (by is_list) (by assumption) (by omega) ?_); intro h' k' a' vs' n' gr' e' hn' hI'; (have F' := Fr.keptAll kF gr'); (have N' := news_add kF kN gr' e' hn'); (have l1 := news_off kN hn'); (try simp only [AllNe, and_true] at l1); k_sweep))
local macro_rules | `(tactic| walk_at "BaseRest") => `(tactic| (with_unfolding_all first | (refine BaseRest.succ (fun it' h' tk' hit' F' N' => ?_)) | (refine BaseRest.zero (fun h' tk' F' N' => ?_))))
local macro_rules | `(tactic| walk_at "call builtin:max") => `(tactic| (k_here; (with_reducible rename Fr _ _ _ _ => kF); (with_reducible rename News _ _ _ _ => kN); (with_reducible rename (decide _ = false) => kd); refine max_list_N rfl kF kN (by is_list) (by assumption) (List.length_pos_iff.mpr (of_decide_eq_false kd)) ?_; intro h' M' t' k' F' N' hm' ha'; k_sweep))
local macro_rules | `(tactic| walk_at "call builtin:list.append") => `(tactic| (k_here; (show wpAny _ _ (call (Value.builtin _) [Value.ref _, _]) _ _ _); (refine' append_K ?k1 ?k2 ?k3 ?_ ?z; (case k1 => k_asm); (case k2 => k_asm); (case k3 => k_upd); (case z => size_fits)); intro h' F' N'; (try k_sweep)))
def numOf (ns : List Int) : Int := (halvesOf ns).foldl (fun a h => a * 10 + h) 0
def okRow (ns : List Int) : Prop := halvesOf ns ≠ [] ∧ ∀ h ∈ halvesOf ns, h ≤ 9
theorem ok_of {ns : List Int} {M : Int} (hd : decide (halvesOf ns = []) = false) (ha : ∀ a, a ∈ halvesOf ns → a ≤ M) (hM : ¬ 9 < M) : okRow ns :=
  ⟨of_decide_eq_false hd, fun a h => Int.le_trans (ha a h) (Int.not_lt.mp hM)⟩
theorem due_call {rows r0 r1 : Addr} {vs0 vs1 : List Value} {ns0 ns1 : List Int} (W : Ground0 w mean mg mb s.heap) (hR : s.heap.IsList rows [Value.ref r0, Value.ref r1].toArray) (h0 : s.heap.IsList r0 vs0.toArray) (h1 : s.heap.IsList r1 vs1.toArray) (i0 : IntsAre vs0 ns0) (i1 : IntsAre vs1 ns1) (l0 : ns0.length ≤ 40) (l1 : ns1.length ≤ 40)
    (hok : okRow ns0 → okRow ns1 → ∀ h' k a n t1 t2, Grown s.heap h' → h'.get? a = some { cls := .type "tuple", data := .seq #[.int (numOf ns0) t1, .int (numOf ns1) t2] n } → s.heap.get? a = none → Q (.ref a) { s with heap := h', toks := k })
    (hno : ¬ (okRow ns0 ∧ okRow ns1) → ∀ h' k t', Grown s.heap h' → Q (.str (Str.ofString "refused") t') { s with heap := h', toks := k }) :
    wpAny (model PR w) (AT 400) (call (.ref 144) [.ref rows]) Q E s := by
  delta PR
  have W' := W
  obtain ⟨X, T⟩ := W'
  have X' := X
  revert X'
  k_fill
  intro _
  w_top on
  refine enterR (binds := [(Str.ofString "rows", .ref rows)]) ⟨X, T⟩ (by decide) (by k_is) (by k_is) (by first | exact BindsTo.of_eq rfl | exact binds_K (by k_in) rfl (by k_is) rfl rfl rfl) (locs rfl) ?_ rfl rfl rfl (by decide)
  intro h₁ F' N'
  k_fold
  k_steps
  (rename Fr _ _ _ _ => lF)
  (rename News _ _ _ _ => lN)
  refine iter_baseUnr rfl lF lN hR ?_
  clear lF lN
  intro i' l1'
  k_lt l1'
  (k_with "pyIter ref" => k_state (fun pre number => number = pre.foldl (fun a h => a * 10 + h) 0) "number")
  (k_with "state" => first | exact rfl | simp_all)
  k_steps
  · (rename Fr _ _ _ _ => F9)
    (rename (decide _ = true) => d9)
    exact hno (fun o => o.1.1 (of_decide_eq_true d9)) _ _ _ F9.keep
  · (rename Fr _ _ _ _ => F9)
    (rename (_ ∈ halvesOf _) => m9)
    (rename (9 < _) => d9)
    exact hno (fun o => Int.not_lt.mpr (o.1.2 _ m9) d9) _ _ _ F9.keep
  · (rename Fr _ _ _ _ => F9)
    (rename (decide (halvesOf ns1 = []) = true) => d9)
    exact hno (fun o => o.2.1 (of_decide_eq_true d9)) _ _ _ F9.keep
  · (rename Fr _ _ _ _ => F9)
    (rename (_ ∈ halvesOf ns1) => m9)
    (rename (9 < _) => d9)
    exact hno (fun o => Int.not_lt.mpr (o.2.2 _ m9) d9) _ _ _ F9.keep
  · (rename Fr _ _ _ _ => F9)
    (rename News _ _ _ _ => N9)
    have e := N9 _ (List.Mem.head _)
    (rename (_ = List.foldl _ _ (halvesOf ns0)) => q0)
    (rename (_ = List.foldl _ _ (halvesOf ns1)) => q1)
    subst q0 q1
    exact hok (ok_of (by assumption) (by assumption) (by assumption)) (ok_of (by assumption) (by assumption) (by assumption)) _ _ _ _ _ _ F9.keep e.1 e.2.2
end
end Mine
end
section
open PySem PySem.W PyProof.Rows PySem.Calls
set_option maxRecDepth 100000
namespace Mine
theorem ints_of : ∀ {ws : List Value}, (∀ v ∈ ws, ∃ n t, v = Value.int n t) → ∃ ms, IntsAre ws ms
  | [], _ => ⟨[], .nil⟩
  | v :: r, h => by
    obtain ⟨ms, hm⟩ := ints_of (ws := r) fun v hv => h v (List.mem_cons_of_mem _ hv)
    obtain ⟨n, t, e⟩ := h v (List.mem_cons_self ..)
    subst e
    exact ⟨n :: ms, .cons n t hm⟩
theorem pick_ints {vs : List Value} {ns : List Int} (hi : IntsAre vs ns) (lo hi' st : Option Int) : ∃ ms, IntsAre (slicePick vs.toArray lo hi' st).toList ms := by
  refine ints_of fun v hv => ?_
  unfold slicePick at hv
  simp only [List.mem_filterMap] at hv
  obtain ⟨i, _, e⟩ := hv
  obtain ⟨k, t, e', _⟩ := IntsAre.at hi i v (by simpa using e)
  exact ⟨k, t, e'⟩
section
variable {prog : Program} {w : World} {A : Around} {E : Value → Shared → Prop} {s : Shared} {h₀ : Heap} {L l : Addr} {m : Str → Option Value} {news : List (Addr × Obj)} {value slice : PySem.Expr} {vs : List Value} {ns : List Int} {vk vl vu : Value} {ops : List Value} {Q : Value → Shared → Prop} {lo hi st : Option Int}
theorem slice3_ints (F : Fr h₀ L s.heap m) (N : News h₀ L s.heap news) (hl : s.heap.IsList l vs.toArray) (pl : IsPart vl lo) (pu : IsPart vu hi) (pk : IsPart vk st) (h0 : st ≠ some 0) (hi' : IntsAre vs ns)
    (h : ∀ D ws ms h', Fr h₀ L h' m → News h₀ L h' ((D, PySem.W.listOf (List.toArray ws) 0) :: news) → (∀ p ∈ news, p.1 < D) → IntsAre ws ms → ms.length ≤ ns.length → Q (.ref D) { s with heap := h' })
    (hs : subscripted slice false (.ref l) (.ref s.heap.objs.size) = operate ops (getItem (.ref l) (.ref s.heap.objs.size))) (ht : ∀ r, letTemporaryGo value (.ref l) r = pure ()) (hz : vs.toArray.size ≤ sizeLine) :
    wpAny (model prog w) A (subscriptTail value slice (.ref l) (.ref s.heap.objs.size)) Q E { s with heap := s.heap.push { cls := .type "slice", data := .fields #[vl, vu, vk] } } := by
  obtain ⟨ms, hm⟩ := pick_ints hi' lo hi st
  refine kmk_slice3_lit F N hl pl pu pk h0 rfl (fun D h' F' N' l1 => h D _ ms h' F' N' l1 hm ?_) hs ht hz
  rw [← hm.length, ← hi'.length]
  have := slicePick_size_le vs.toArray lo hi st
  simpa using this
end
end Mine
end
section
open PySem PySem.W PyProof.Rows PySem.Calls
set_option maxRecDepth 100000
set_option maxHeartbeats 8000000
namespace Mine
def Oct (ns : List Int) : Prop := (∀ n ∈ ns, 0 ≤ n ∧ n < 256) ∧ ns.length ≤ 10
theorem oct_map {ms ds : List Int} (h : ms.length ≤ ds.length) (h' : ds.length = min 10 k) : Oct (ms.map fun k' => if k'.fmod 5 = 4 then (k'.fdiv 5).fmod 256 else ((k'.fdiv 5).fmod 100).fdiv 10 * 16 + (k'.fdiv 5).fmod 10) := by
  refine ⟨fun n hn => ?_, by rw [List.length_map]; omega⟩
  obtain ⟨x, _, rfl⟩ := List.mem_map.mp hn
  generalize x.fdiv 5 = y
  have e1 : y.fmod 256 = y % 256 := Int.fmod_eq_emod_of_nonneg y (by decide)
  have e2 : y.fmod 100 = y % 100 := Int.fmod_eq_emod_of_nonneg y (by decide)
  have e3 : y.fmod 10 = y % 10 := Int.fmod_eq_emod_of_nonneg y (by decide)
  have e4 : (y % 100).fdiv 10 = (y % 100) / 10 := Int.fdiv_eq_ediv_of_nonneg _ (by decide)
  rw [e1, e2, e3, e4]
  split <;> omega
def LawSt (h₀ : Heap) (L D : Addr) (ds : List Int) (s s' : Shared) : Prop := ∃ h tk m rows r0 r1 n0 n1 n2 n3 vs0 vs1 ws ns0 ns1, s' = { s with heap := h, toks := tk } ∧ Fr h₀ L h m ∧ m (Str.ofString "rows") = some (.ref rows) ∧ m (Str.ofString "drawn") = some (.ref D) ∧
  News h₀ L h [(rows, PySem.W.listOf #[.ref r0, .ref r1] n0), (r0, PySem.W.listOf (List.toArray vs0) n1), (r1, PySem.W.listOf (List.toArray vs1) n2), (D, PySem.W.listOf (List.toArray ws) n3)] ∧ IntsAre vs0 ns0 ∧ IntsAre vs1 ns1 ∧ IntsAre ws ds ∧ Oct ns0 ∧ Oct ns1
theorem LawSt.intro {h₀ : Heap} {L D : Addr} {ds : List Int} {s : Shared} {h : Heap} {tk : Nat} {m : Str → Option Value} {rows r0 r1 : Addr} {n0 n1 n2 n3 : Nat} {vs0 vs1 ws : List Value} {ns0 ns1 : List Int} {all : List (Addr × Obj)}
    (F : Fr h₀ L h m) (N : News h₀ L h all) (hr : m (Str.ofString "rows") = some (.ref rows)) (hd : m (Str.ofString "drawn") = some (.ref D))
    (m1 : (rows, PySem.W.listOf #[.ref r0, .ref r1] n0) ∈ all) (m2 : (r0, PySem.W.listOf (List.toArray vs0) n1) ∈ all) (m3 : (r1, PySem.W.listOf (List.toArray vs1) n2) ∈ all) (m4 : (D, PySem.W.listOf (List.toArray ws) n3) ∈ all)
    (i0 : IntsAre vs0 ns0) (i1 : IntsAre vs1 ns1) (i2 : IntsAre ws ds) (o0 : Oct ns0) (o1 : Oct ns1) : LawSt h₀ L D ds s { s with heap := h, toks := tk } :=
  ⟨h, tk, m, rows, r0, r1, n0, n1, n2, n3, vs0, vs1, ws, ns0, ns1, rfl, F, hr, hd, fun p hp => N p (SubL.mem (l := [_, _, _, _]) ⟨m1, m2, m3, m4, trivial⟩ p hp), i0, i1, i2, o0, o1⟩
theorem fr_as2 {h₀ h : Heap} {L : Addr} {m : Str → Option Value} {a b : Str} {va vb : Value} (F : Fr h₀ L h m) (ha : m a = some va) (hb : m b = some vb) : Fr h₀ L h (fun y => if y = a then some va else if y = b then some vb else m y) := by
  have e : (fun y => if y = a then some va else if y = b then some vb else m y) = m := by
    funext y
    split
    · rename_i q; rw [q, ha]
    · split
      · rename_i q; rw [q, hb]
      · rfl
  rw [e]; exact F
theorem cutIf {M : Model} {A : Around} {E : Value → Shared → Prop} {t : Sem Flow} {Q : Flow → Shared → Prop} {s : Shared} {h₀ : Heap} {L D : Addr} {ds : List Int} {ws : List Value} {m : Str → Option Value} (F : Fr h₀ L s.heap m) (_ : m (Str.ofString "drawn") = some (.ref D)) (_ : IntsAre ws ds)
    (h1 : wpAny M A t (fun f s' => f = Flow.next ∧ LawSt h₀ L D ds s s') E s) (h2 : ∀ s', LawSt h₀ L D ds s s' → Q .next s') : wpAny M A t Q E s :=
  wpAny_mono h1 (fun f s' hj => by obtain ⟨rfl, hj⟩ := hj; exact h2 s' hj) fun _ _ e => e
def hexIt : Nat → List Int → List Int
  | 0, ns => ns
  | i + 1, ns => hexInts (hexIt i ns)
def TurnSt (f0 f1 : List Int) (i : Nat) (m : Str → Option Value) (news : List (Addr × Obj)) : Prop := ∃ rows first r0 r1 q0 q1 n0 n1 n2 n3 n4 n5 vs0 vs1 us0 us1,
  m (Str.ofString "rows") = some (.ref rows) ∧ m (Str.ofString "first") = some (.ref first) ∧
  news = [(rows, PySem.W.listOf #[.ref r0, .ref r1] n0), (r0, PySem.W.listOf (List.toArray vs0) n1), (r1, PySem.W.listOf (List.toArray vs1) n2), (first, PySem.W.listOf #[.ref q0, .ref q1] n3), (q0, PySem.W.listOf (List.toArray us0) n4), (q1, PySem.W.listOf (List.toArray us1) n5)] ∧
  IntsAre vs0 (hexIt i f0) ∧ IntsAre vs1 (hexIt i f1) ∧ IntsAre us0 f0 ∧ IntsAre us1 f1
theorem TurnSt.start {f0 f1 : List Int} {m : Str → Option Value} {rows r0 r1 : Addr} {n0 n1 n2 : Nat} {vs0 vs1 : List Value} (hr : m (Str.ofString "rows") = some (.ref rows)) (hf : m (Str.ofString "first") = some (.ref rows)) (i0 : IntsAre vs0 f0) (i1 : IntsAre vs1 f1) :
    TurnSt f0 f1 0 m [(rows, PySem.W.listOf #[.ref r0, .ref r1] n0), (r0, PySem.W.listOf (List.toArray vs0) n1), (r1, PySem.W.listOf (List.toArray vs1) n2), (rows, PySem.W.listOf #[.ref r0, .ref r1] n0), (r0, PySem.W.listOf (List.toArray vs0) n1), (r1, PySem.W.listOf (List.toArray vs1) n2)] :=
  ⟨rows, rows, r0, r1, r0, r1, n0, n1, n2, n0, n1, n2, vs0, vs1, vs0, vs1, hr, hf, rfl, i0, i1, i0, i1⟩
theorem fr_as3 {h₀ h : Heap} {L : Addr} {m : Str → Option Value} {c a b : Str} {vc va vb : Value} (F : Fr h₀ L h (fun y => if y = c then some vc else m y)) (ha : m a = some va) (hb : m b = some vb) : Fr h₀ L h (fun y => if y = c then some vc else if y = a then some va else if y = b then some vb else m y) := by
  have e : (fun y => if y = c then some vc else if y = a then some va else if y = b then some vb else m y) = fun y => if y = c then some vc else m y := by
    funext y
    split
    · rfl
    · split
      · rename_i q; rw [q, ha]
      · split
        · rename_i q; rw [q, hb]
        · rfl
  rw [e]; exact F
theorem hexIt_in {f : List Int} (o : Oct f) : ∀ i, ∀ n ∈ hexIt i f, 0 ≤ n ∧ n < 256
  | 0 => o.1
  | i + 1 => fun n hn => by
    rcases hexInts_in (hexIt_in o i) n hn with h | h <;> omega
theorem hexIt_length (f : List Int) : ∀ i, (hexIt i f).length = 2 ^ i * f.length
  | 0 => by simp [hexIt]
  | i + 1 => by rw [hexIt, hexInts_length, hexIt_length f i, Nat.pow_succ]; rw [Nat.mul_comm (2 ^ i) 2, Nat.mul_assoc]
theorem hexIt_le {f : List Int} (o : Oct f) {i : Nat} (hi : i < 3) : (hexIt i f).length ≤ 40 := by
  rw [hexIt_length]
  have h := o.2
  have hc : i = 0 ∨ i = 1 ∨ i = 2 := by omega
  rcases hc with rfl | rfl | rfl <;> omega
/-- the law's own definition, read off the program -/
def lawDef : Option Stmt := PySem.Challenge.pw_pa0001_01.main.body.getLast?
def bodyOfDef : Option Stmt → List Stmt
  | some (.FunctionDef _ _ b _ _ _ _ _ _ _) => b
  | _ => []
def scopeOfDef : Option Stmt → Scope → Scope
  | some (.FunctionDef _ _ _ _ _ _ sc _ _ _), _ => sc
  | _, d => d
def bodyOfFor : Option Stmt → List Stmt
  | some (.For _ _ b _ _) => b
  | _ => []
def turnBody : List Stmt := bodyOfFor ((bodyOfDef lawDef)[5]?)
def lawScope : Scope := scopeOfDef lawDef { kind := .function, names := [], isGenerator := false, isCoroutine := false }
theorem caller_depth {e : Env} : (callerA.deeper e).depth ≤ 400 := by
  show 1 + claimMargin + 1 ≤ 400
  decide +kernel
theorem caller_units {e : Env} : (callerA.deeper e).units ≤ 400 := by
  show (Around.deeper callerA e).units ≤ 400
  exact Nat.le_of_ble_eq_true rfl
theorem liftC {α : Type} {M : Model} {e : Env} {n : Nat} {t : Sem α} {Q : α → Shared → Prop} {E : Value → Shared → Prop} {s : Shared} (hn : 400 ≤ n) (h : wpAny M (AT n) t Q E s) : wpAny M (callerA.deeper e) t Q E s :=
  lift rfl (Nat.le_trans caller_depth hn) (Nat.le_trans caller_units hn) h
end Mine
end
section
open PySem PySem.W PyProof.Rows PySem.Calls
set_option maxRecDepth 100000
namespace Mine
open PySem.NumText
/-- the writing of a row, as a text -/
def hexText (ns : List Int) : PySem.Str := ⟨(byteArr (hexInts ns)).map UInt8.toNat⟩
def hexSign (h : Int) : Nat := (48 + h + h.fdiv 10 * 7).toNat
theorem halves_in {ns : List Int} (hn : ∀ n ∈ ns, 0 ≤ n ∧ n < 256) : ∀ h ∈ halvesOf ns, 0 ≤ h ∧ h ≤ 15 := by
  intro h hh
  unfold halvesOf at hh
  obtain ⟨n, hm, hx⟩ := List.mem_flatMap.mp hh
  have hb := hn n hm
  have e1 : n.fdiv 16 = n / 16 := Int.fdiv_eq_ediv_of_nonneg _ (by decide)
  have e2 : n.fmod 16 = n % 16 := Int.fmod_eq_emod_of_nonneg _ (by decide)
  rw [e1, e2] at hx
  rcases List.mem_cons.mp hx with rfl | hx
  · omega
  · rcases List.mem_cons.mp hx with rfl | hx
    · omega
    · cases hx
theorem hexText_list {ns : List Int} (hn : ∀ n ∈ ns, 0 ≤ n ∧ n < 256) : (hexText ns).cps.toList = (halvesOf ns).map hexSign := by
  show ((byteArr (hexInts ns)).map UInt8.toNat).toList = _
  unfold byteArr hexInts
  simp only [List.map_toArray, List.toList_toArray, List.map_map]
  apply List.map_congr_left
  intro h hh
  have hb := halves_in hn h hh
  have e : h.fdiv 10 = h / 10 := Int.fdiv_eq_ediv_of_nonneg _ (by decide)
  show (48 + h + h.fdiv 10 * 7).toNat.toUInt8.toNat = hexSign h
  rw [byte_toNat (by rw [e]; omega)]
  rfl
theorem sign_hex {h : Int} (hb : 0 ≤ h ∧ h ≤ 15) : HexC (hexSign h) := by
  have e : h.fdiv 10 = h / 10 := Int.fdiv_eq_ediv_of_nonneg _ (by decide)
  unfold HexC hexSign
  rw [e]
  omega
theorem hexText_hex {ns : List Int} (hn : ∀ n ∈ ns, 0 ≤ n ∧ n < 256) : ∀ c ∈ (hexText ns).cps.toList, HexC c := by
  rw [hexText_list hn]
  intro c hc
  obtain ⟨h, hh, rfl⟩ := List.mem_map.mp hc
  exact sign_hex (halves_in hn h hh)
theorem hexText_length (ns : List Int) : (hexText ns).length = 2 * ns.length := by
  show ((byteArr (hexInts ns)).map UInt8.toNat).size = _
  rw [Array.size_map, byteArr_size, hexInts_length]
theorem fold_val : ∀ (hs : List Int) (a : Nat), (∀ h ∈ hs, 0 ≤ h ∧ h ≤ 9) → (((hs.map hexSign).foldl (fun acc c => acc * 10 + (c - 48)) a : Nat) : Int) = hs.foldl (fun a h => a * 10 + h) (a : Int)
  | [], _, _ => rfl
  | h :: hs, a, hb => by
    have hh := hb h (List.mem_cons_self ..)
    rw [List.map_cons, List.foldl_cons, List.foldl_cons, fold_val hs _ fun x hx => hb x (List.mem_cons_of_mem _ hx)]
    have e : h.fdiv 10 = h / 10 := Int.fdiv_eq_ediv_of_nonneg _ (by decide)
    congr 1
    unfold hexSign
    rw [e]
    omega
theorem ok_digits {ns : List Int} (hn : ∀ n ∈ ns, 0 ≤ n ∧ n < 256) (ok : okRow ns) : AllDigits (hexText ns).cps.toList := by
  rw [hexText_list hn]
  intro c hc
  obtain ⟨h, hh, rfl⟩ := List.mem_map.mp hc
  have h1 := halves_in hn h hh
  have h2 := ok.2 h hh
  have e : h.fdiv 10 = h / 10 := Int.fdiv_eq_ediv_of_nonneg _ (by decide)
  unfold hexSign
  rw [e]
  omega
theorem ok_val {ns : List Int} (hn : ∀ n ∈ ns, 0 ≤ n ∧ n < 256) (ok : okRow ns) : ((digitsVal (hexText ns).cps.toList : Nat) : Int) = numOf ns := by
  rw [hexText_list hn]
  exact fold_val _ 0 fun h hh => ⟨(halves_in hn h hh).1, ok.2 h hh⟩
theorem hex_int_ok {ns : List Int} (hn : ∀ n ∈ ns, 0 ≤ n ∧ n < 256) (hz : ns.length ≤ 40) (ok : okRow ns) : PySem.intText? (hexText ns) = some (numOf ns) := by
  rw [PySem.intText_digits (ok_digits hn ok) (by
    rw [hexText_list hn]
    intro e
    exact ok.1 (List.map_eq_nil_iff.mp e)) (by rw [hexText_length]; omega), ok_val hn ok]
theorem numText_hex {x : PySem.Str} (h : ∀ c ∈ x.cps.toList, HexC c) : numTextOf x = x.cps.toList ∧ numSeenOf x = x.cps.toList := by
  have e1 : numTextOf x = x.cps.toList := by
    refine if_pos ?_
    rw [← Array.all_toList, List.all_eq_true]
    intro c hc
    have := h c hc
    unfold HexC at this
    exact decide_eq_true (by omega)
  refine ⟨e1, ?_⟩
  show (numTextOf x).takeWhile _ = _
  rw [e1]
  refine takeWhile_all fun c hc => ?_
  have := h c hc
  unfold HexC at this
  exact bne_iff_ne.mpr (by omega)
theorem step_letter {p : Array Nat × Bool} {c : Nat} (h : 65 ≤ c ∧ c ≤ 70) : step 10 p c = none := by
  have hc : c = 65 ∨ c = 66 ∨ c = 67 ∨ c = 68 ∨ c = 69 ∨ c = 70 := by omega
  rcases hc with rfl | rfl | rfl | rfl | rfl | rfl <;> rfl
theorem foldl_letter : ∀ (cs : List Nat) (p : Array Nat × Bool), (∀ c ∈ cs, HexC c) → (∃ c ∈ cs, 65 ≤ c) → cs.foldlM (step 10) p = none
  | [], _, _, h => by obtain ⟨c, hc, _⟩ := h; cases hc
  | c :: cs, (ds, b), hs, hm => by
    rw [List.foldlM_cons]
    rcases hs c (List.mem_cons_self ..) with hc | hc
    · rw [step_digit hc]
      show cs.foldlM (step 10) (ds.push (c - 48), true) = none
      refine foldl_letter cs _ (fun d hd => hs d (List.mem_cons_of_mem _ hd)) ?_
      obtain ⟨d, hd, h65⟩ := hm
      rcases List.mem_cons.mp hd with e | hd
      · omega
      · exact ⟨d, hd, h65⟩
    · rw [step_letter hc]; rfl
theorem drop_hex {cs : List Nat} (h : ∀ c ∈ cs, HexC c) : cs.dropWhile blank = cs := by
  cases cs with
  | nil => rfl
  | cons c cs => exact dropWhile_of (by have := h c (List.mem_cons_self ..); unfold HexC at this; omega)
theorem hex_int_none {x : PySem.Str} (hs : ∀ c ∈ x.cps.toList, HexC c) (h : x.cps.toList = [] ∨ ∃ c ∈ x.cps.toList, 65 ≤ c) : PySem.intText? x = none := by
  obtain ⟨e1, e2⟩ := numText_hex hs
  have hd : digits? 10 (core x.cps.toList) = none := by
    generalize x.cps.toList = cs at hs h
    cases cs with
    | nil => rfl
    | cons c cs =>
      have hc := hs c (List.mem_cons_self ..)
      have es : sign ((c :: cs).dropWhile blank) = (false, c :: cs) := by
        rw [drop_hex hs]; unfold HexC at hc; exact sign_of (by omega) (by omega)
      have ec : core (c :: cs) = c :: cs := by
        unfold core
        rw [es]
        show ((c :: cs).reverse.dropWhile blank).reverse = c :: cs
        rw [drop_hex fun d hd => hs d (List.mem_reverse.mp hd), List.reverse_reverse]
      rw [ec]
      unfold digits?
      rw [foldl_letter _ _ hs (h.resolve_left (by simp))]
      rfl
  unfold PySem.intText?
  rw [e1, e2, hd]
  exact ite_self _
theorem hex_int_no {ns : List Int} (hn : ∀ n ∈ ns, 0 ≤ n ∧ n < 256) (ok : ¬ okRow ns) : PySem.intText? (hexText ns) = none := by
  refine hex_int_none (hexText_hex hn) ?_
  rw [hexText_list hn]
  by_cases e : halvesOf ns = []
  · exact .inl (by rw [e]; rfl)
  · refine .inr ?_
    have h1 : ¬ ∀ h ∈ halvesOf ns, h ≤ 9 := fun q => ok ⟨e, q⟩
    obtain ⟨h, q⟩ := Classical.not_forall.mp h1
    obtain ⟨hh, q⟩ := Classical.not_imp.mp q
    have hb := halves_in hn h hh
    have e : h.fdiv 10 = h / 10 := Int.fdiv_eq_ediv_of_nonneg _ (by decide)
    refine ⟨hexSign h, List.mem_map.mpr ⟨h, hh, rfl⟩, ?_⟩
    unfold hexSign
    rw [e]
    omega
end Mine
end
section
open PySem PySem.W PyProof.Rows PySem.Calls
set_option maxRecDepth 100000
set_option maxHeartbeats 8000000
namespace Mine
section
variable {w : World} {mean : ExcName → Option Value} {mg mb : Str → Option Value} {s : Shared} {E : Value → Shared → Prop} {Q : Value → Shared → Prop}
theorem told_rows {cn : Str} {cs : Scope} {L a : Addr} {ccd : Value} {h₀ : Heap} {m : Str → Option Value} {news : List (Addr × Obj)} {g0 g1 : List Int} {t : Tok} (W : Ground0 w mean mg mb h₀) (F : Fr h₀ L s.heap m) (N : News h₀ L s.heap news) (hck : cs.kind = .function)
    (hn0 : ∀ n ∈ g0, 0 ≤ n ∧ n < 256) (hn1 : ∀ n ∈ g1, 0 ≤ n ∧ n < 256) (hz0 : g0.length ≤ 40) (hz1 : g1.length ≤ 40)
    (hok : okRow g0 ∧ okRow g1 → ∀ h' k a' n' t1 t2, Fr h₀ L h' m → News h₀ L h' ((a', { cls := .type "tuple", data := .seq #[.int (numOf g0) t1, .int (numOf g1) t2] n' }) :: news) → Q (.ref a') { s with heap := h', toks := k })
    (hno : ¬ (okRow g0 ∧ okRow g1) → ∀ h' k t', Fr h₀ L h' m → News h₀ L h' news → Q (.str (Str.ofString "refused") t') { s with heap := h', toks := k }) :
    wpAny (model PR w) (callerA.deeper (envOf cn cs L a ccd)) (call (.ref 151) [.str (hexText g0 ++ Str.ofString "." ++ hexText g1) t]) Q E s := by
  refine told_call W F N hck (hexText_hex hn0) (hexText_hex hn1) (by rw [hexText_length]; omega) (by rw [hexText_length]; omega) ?_ ?_
  · intro i j hi hj h' k a' n' t1 t2 F' N' _
    have k0 : okRow g0 := Classical.byContradiction fun q => by rw [hex_int_no hn0 q] at hi; cases hi
    have k1 : okRow g1 := Classical.byContradiction fun q => by rw [hex_int_no hn1 q] at hj; cases hj
    rw [hex_int_ok hn0 hz0 k0] at hi
    rw [hex_int_ok hn1 hz1 k1] at hj
    cases hi
    cases hj
    exact hok ⟨k0, k1⟩ h' k a' n' t1 t2 F' N'
  · intro h h' k t' F' N'
    refine hno (fun q => ?_) h' k t' F' N'
    rcases h with h | h
    · rw [hex_int_ok hn0 hz0 q.1] at h; cases h
    · rw [hex_int_ok hn1 hz1 q.2] at h; cases h
theorem decode_hex {M : Program} {A : Around} {ns : List Int} {t u : Tok} (hn : ∀ n ∈ ns, 0 ≤ n ∧ n < 256) (hz : ns.length ≤ 40) (hq : ∀ t' k, Q (.str (hexText ns) t') { s with toks := k }) :
    wpAny (model M w) A (call (.builtin "bytes.decode") [.bytes (byteArr (hexInts ns)) t, .str (Str.ofString "ascii") u]) Q E s := by
  refine decode_call (by rw [byteArr_size, hexInts_length]; omega) (fun c hc => ?_) hq
  have := hex_bytes hn c hc
  unfold HexC at this
  omega
end
end Mine
end
section
open PySem PySem.W PyProof.Rows PySem.Calls
set_option maxRecDepth 100000
set_option maxHeartbeats 8000000
namespace Mine
theorem after_int100 {M : Model} {A : Around} {E : Value → Shared → Prop} {s : Shared} {l : List Nat} {p : List Value} {r : List Nat}
    {f : Nat → List Value × Builtin.Str.Writer × List Nat → Sem (ForInStep (List Value × Builtin.Str.Writer × List Nat))} {Q : List Value × Builtin.Str.Writer × List Nat → Shared → Prop} {w : Builtin.Str.Writer} {N : Nat} {o : Option Value}
    {c : Builtin.Str.Percent} {n : Int} {d : List Nat} (g : KPc.Good w PySem.Str.empty N) (h1 : c.alt = false) (h2 : c.type = 100 ∨ c.type = 105 ∨ c.type = 117) (h3 : c.prec = none) (hn : 0 ≤ n) (hm : n < 10 ^ 100)
    (hd : d = (PySem.Str.ofString (toString ((n.natAbs : Nat) : Int))).cps.toList) (ho : o = none) (h : ∀ w', KPc.Good w' (PySem.Str.ofString (toString n)) (N + 100) → wpAny M A (forIn l (p, w', r) f) Q E s) :
    wpAny M A (forIn l (p, w.add ⟨(Builtin.Str.percentInt c (decide (n < 0)) d).toArray⟩ o, r) f) Q E s := by
  have en : ((n.natAbs : Nat) : Int) = n := Int.natAbs_of_nonneg hn
  rw [KPc.int_text c h1 h2 h3 hn, hd, en]
  exact KPc.after_str0 g (toString_length_le hn (by decide) hm) (KPc.obj_none ho) h
section
variable {prog : Program} {w : World} {A : Around} {E : Value → Shared → Prop} {s : Shared} {Q : Value → Shared → Prop} {n : Int} {t u : Tok}
local macro_rules | `(tactic| kpc_piece) => `(tactic| (refine after_int100 (by kpc_g) rfl (by kpc_kind) rfl (by with_reducible assumption) (by with_reducible assumption) rfl (by kpc_none) ?_; intro _ _))
theorem percent_d (hn0 : 0 ≤ n) (hn1 : n < 10 ^ 100) (h : ∀ t' k, Q (.str (PySem.Str.ofString (toString n)) t') { s with toks := k }) : wpAny (model prog w) A (binaryOp .Mod (.str (PySem.Str.ofString "%d") t) (.int n u)) Q E s := by
  refine KPc.mod_lit (X' := ⟨#[37, 100]⟩) (by decide +kernel) (shown (N := 2 ^ 1920) (by omega) (by omega) (Int.le_refl _)) ?_ h
  kpc_run
end
section
variable {prog : Program} {w : World} {A : Around} {E : Value → Shared → Prop} {s : Shared} {Q : Value → Shared → Prop} {x y : PySem.Str} {t u : Tok}
theorem add_any (hs : x.length + y.length ≤ 1000) (h : ∀ t' k, Q (.str (x ++ y) t') { s with toks := k }) : wpAny (model prog w) A (binaryOp .Add (.str x t) (.str y u)) Q E s :=
  PyProof.Rows.add_str h (by rw [sizeLine_eq]; omega)
theorem add_dot {g : List Int} (hz : g.length ≤ 40) (h : ∀ t' k, Q (.str (hexText g ++ PySem.Str.ofString ".") t') { s with toks := k }) : wpAny (model prog w) A (binaryOp .Add (.str (hexText g) t) (.str (PySem.Str.ofString ".") u)) Q E s :=
  add_any (by
    have e : (PySem.Str.ofString ".").length = 1 := by decide
    rw [hexText_length, e]; omega) h
theorem len_app (x y : PySem.Str) : (x ++ y).length = x.length + y.length := by
  show (PySem.Str.append x y).cps.size = x.cps.size + y.cps.size
  simp [PySem.Str.append]
theorem add_rest {g g' : List Int} (hz : g.length ≤ 40) (hz' : g'.length ≤ 40) (h : ∀ t' k, Q (.str (hexText g ++ PySem.Str.ofString "." ++ hexText g') t') { s with toks := k }) : wpAny (model prog w) A (binaryOp .Add (.str (hexText g ++ PySem.Str.ofString ".") t) (.str (hexText g') u)) Q E s :=
  add_any (by
    have e : (PySem.Str.ofString ".").length = 1 := by decide
    rw [len_app, hexText_length, hexText_length, e]; omega) h
end
end Mine
end
section
open PySem PySem.W PyProof.Rows PySem.Calls
set_option maxRecDepth 100000
namespace Mine
open PySem.NumText
def figL (cs : List Nat) : List Nat := match cs.dropWhile (· == 48) with
  | [] => [48]
  | c :: r => c :: r
theorem figL_ne {c : Nat} {r : List Nat} (h : c ≠ 48) : figL (c :: r) = c :: r := by
  unfold figL
  rw [List.dropWhile_cons, if_neg (by rw [beq_iff_eq]; exact h)]
theorem figL_zero (r : List Nat) : figL (48 :: r) = figL r := by
  unfold figL
  rw [List.dropWhile_cons]
  rfl
theorem pad_list : ∀ (cs : List Nat), cs ≠ [] → (figL cs).length ≤ cs.length ∧ List.replicate (cs.length - (figL cs).length) 48 ++ figL cs = cs
  | [], h => absurd rfl h
  | c :: r, _ => by
    by_cases hc : c = 48
    · subst hc
      rw [figL_zero]
      cases r with
      | nil => exact ⟨Nat.le_refl _, rfl⟩
      | cons d r' =>
        obtain ⟨h1, h2⟩ := pad_list (d :: r') (by simp)
        refine ⟨Nat.le_succ_of_le h1, ?_⟩
        rw [List.length_cons, Nat.succ_sub h1, List.replicate_succ, List.cons_append, h2]
    · rw [figL_ne hc]
      exact ⟨Nat.le_refl _, by simp⟩
theorem char_back {c : Nat} (h : 48 ≤ c ∧ c ≤ 57) : (Char.ofNat c).toNat = c := by
  have hc : c = 48 ∨ c = 49 ∨ c = 50 ∨ c = 51 ∨ c = 52 ∨ c = 53 ∨ c = 54 ∨ c = 55 ∨ c = 56 ∨ c = 57 := by omega
  rcases hc with rfl | rfl | rfl | rfl | rfl | rfl | rfl | rfl | rfl | rfl <;> rfl
theorem digits_figL {cs : List Nat} (h : AllDigits cs) : (Nat.toDigits 10 (digitsVal cs)).map Char.toNat = figL cs := by
  rw [toDigits_all cs h]
  unfold figL
  have hd : ∀ c ∈ cs.dropWhile (· == 48), 48 ≤ c ∧ c ≤ 57 := fun c hc => h c ((List.dropWhile_sublist _).mem hc)
  cases e : cs.dropWhile (· == 48) with
  | nil => rfl
  | cons c r =>
    rw [e] at hd
    show ((c :: r).map Char.ofNat).map Char.toNat = c :: r
    rw [List.map_map]
    conv => rhs; rw [← List.map_id (c :: r)]
    apply List.map_congr_left
    intro d hm
    exact char_back (hd d hm)
theorem fold_lt : ∀ (cs : List Nat) (a : Nat), AllDigits cs → cs.foldl (fun acc c => acc * 10 + (c - 48)) a < (a + 1) * 10 ^ cs.length
  | [], a, _ => by simp
  | c :: r, a, h => by
    rw [List.foldl_cons, List.length_cons, Nat.pow_succ]
    have hc := h.head
    refine Nat.lt_of_lt_of_le (fold_lt r _ h.tail) ?_
    rw [Nat.mul_comm (10 ^ r.length) 10, ← Nat.mul_assoc]
    exact Nat.mul_le_mul_right _ (by omega)
theorem num_bounds {ns : List Int} (hn : ∀ n ∈ ns, 0 ≤ n ∧ n < 256) (hz : ns.length ≤ 40) (ok : okRow ns) : 0 ≤ numOf ns ∧ numOf ns < 10 ^ 100 := by
  have h1 := fold_lt _ 0 (ok_digits hn ok)
  have h2 : (hexText ns).cps.toList.length ≤ 80 := by
    have := hexText_length ns
    show (hexText ns).cps.toList.length ≤ 80
    rw [Array.length_toList]
    have e : (hexText ns).cps.size = (hexText ns).length := rfl
    rw [e, this]; omega
  rw [← ok_val hn ok]
  unfold digitsVal
  refine ⟨by omega, ?_⟩
  have h3 : 10 ^ (hexText ns).cps.toList.length ≤ 10 ^ 80 := Nat.pow_le_pow_right (by decide) h2
  have h4 : (hexText ns).cps.toList.foldl (fun acc c => acc * 10 + (c - 48)) 0 < 10 ^ 100 := by
    refine Nat.lt_of_lt_of_le h1 ?_
    rw [Nat.zero_add, Nat.one_mul]
    exact Nat.le_trans h3 (by decide)
  exact_mod_cast h4
theorem fig_list {ns : List Int} (hn : ∀ n ∈ ns, 0 ≤ n ∧ n < 256) (ok : okRow ns) : (PySem.Str.ofString (toString (numOf ns))).cps.toList = figL (hexText ns).cps.toList := by
  rw [← ok_val hn ok, KIN.signs_num, digits_figL (ok_digits hn ok)]
theorem fig_length {ns : List Int} (hn : ∀ n ∈ ns, 0 ≤ n ∧ n < 256) (ok : okRow ns) : (PySem.Str.ofString (toString (numOf ns))).length ≤ 2 * ns.length := by
  have h := (pad_list (hexText ns).cps.toList (by rw [hexText_list hn]; exact fun e => ok.1 (List.map_eq_nil_iff.mp e))).1
  rw [← fig_list hn ok, Array.length_toList, Array.length_toList] at h
  have := hexText_length ns
  show (PySem.Str.ofString (toString (numOf ns))).cps.size ≤ 2 * ns.length
  rw [← this]
  exact h
theorem fold_rep : ∀ (n : Nat) (acc : Array Nat), ((List.replicate n (#[48] : Array Nat)).foldl (· ++ ·) acc).toList = acc.toList ++ List.replicate n 48
  | 0, acc => by simp
  | n + 1, acc => by
    rw [List.replicate_succ, List.foldl_cons, fold_rep n, List.replicate_succ]
    simp
theorem mul_zero_list (j : Nat) : (Txt.mul (PySem.Str.ofString "0") (j : Int)).cps.toList = List.replicate j 48 := by
  have e0 : (PySem.Str.ofString "0") = ⟨#[48]⟩ := by decide
  unfold Txt.mul
  by_cases h0 : (j : Int) < 1
  · have : j = 0 := by omega
    subst this
    rw [if_pos h0]; rfl
  · rw [if_neg h0]
    by_cases h1 : j = 1
    · subst h1
      rw [e0]; rfl
    · rw [if_neg (by
        rw [e0]
        have a1 : ((j : Int) == 1) = false := beq_eq_false_iff_ne.mpr (by omega)
        rw [a1]
        decide), e0]
      show ((List.replicate (j : Int).toNat (#[48] : Array Nat)).foldl (· ++ ·) #[]).toList = _
      rw [fold_rep]
      simp
theorem str_ext {x y : PySem.Str} (h : x.cps.toList = y.cps.toList) : x = y := by
  cases x; cases y
  congr
  exact Array.toList_inj.mp h
theorem app_list (x y : PySem.Str) : (x ++ y).cps.toList = x.cps.toList ++ y.cps.toList := by
  show (PySem.Str.append x y).cps.toList = _
  simp [PySem.Str.append]
theorem pad_ok {ns : List Int} (hn : ∀ n ∈ ns, 0 ≤ n ∧ n < 256) (ok : okRow ns) : Txt.mul (PySem.Str.ofString "0") (2 * (ns.length : Int) - ((PySem.Str.ofString (toString (numOf ns))).length : Int)) ++ PySem.Str.ofString (toString (numOf ns)) = hexText ns := by
  have hp := pad_list (hexText ns).cps.toList (by rw [hexText_list hn]; exact fun e => ok.1 (List.map_eq_nil_iff.mp e))
  have hl := fig_length hn ok
  have e : 2 * (ns.length : Int) - ((PySem.Str.ofString (toString (numOf ns))).length : Int) = ((2 * ns.length - (PySem.Str.ofString (toString (numOf ns))).length : Nat) : Int) := by omega
  apply str_ext
  rw [app_list, e, mul_zero_list, fig_list hn ok]
  have e1 : (PySem.Str.ofString (toString (numOf ns))).length = (figL (hexText ns).cps.toList).length := by
    rw [← fig_list hn ok, Array.length_toList]; rfl
  have e2 : (hexText ns).cps.toList.length = 2 * ns.length := by
    rw [Array.length_toList]; exact hexText_length ns
  rw [e1, ← e2]
  exact hp.2
section
variable {prog : Program} {w : World} {A : Around} {E : Value → Shared → Prop} {s : Shared} {Q : Value → Shared → Prop} {t u : Tok} {ns : List Int}
theorem add_pad (hn : ∀ n ∈ ns, 0 ≤ n ∧ n < 256) (hz : ns.length ≤ 40) (ok : okRow ns) (h : ∀ t' k, Q (.str (hexText ns) t') { s with toks := k }) :
    wpAny (model prog w) A (binaryOp .Add (.str (Txt.mul (PySem.Str.ofString "0") (2 * (ns.length : Int) - ((PySem.Str.ofString (toString (numOf ns))).length : Int))) t) (.str (PySem.Str.ofString (toString (numOf ns))) u)) Q E s := by
  refine add_any ?_ fun t' k => by rw [pad_ok hn ok]; exact h t' k
  rw [← len_app, pad_ok hn ok, hexText_length]; omega
theorem mul_pad (hn : ∀ n ∈ ns, 0 ≤ n ∧ n < 256) (hz : ns.length ≤ 40) (ok : okRow ns) (h : ∀ t' k, Q (.str (Txt.mul (PySem.Str.ofString "0") (2 * (ns.length : Int) - ((PySem.Str.ofString (toString (numOf ns))).length : Int))) t') { s with toks := k }) :
    wpAny (model prog w) A (binaryOp .Mult (.str (PySem.Str.ofString "0") t) (.int (2 * (ns.length : Int) - ((PySem.Str.ofString (toString (numOf ns))).length : Int)) u)) Q E s := by
  have hl := fig_length hn ok
  exact SB.mul (mulOk_of 1 100 (by decide) (by omega) (by omega) (by decide) (by decide)) h
theorem hexText_bytes (ns : List Int) : (hexText ns).cps.map Nat.toUInt8 = byteArr (hexInts ns) := by
  show ((byteArr (hexInts ns)).map UInt8.toNat).map Nat.toUInt8 = _
  rw [Array.map_map]
  conv => rhs; rw [← Array.map_id (byteArr (hexInts ns))]
  congr 1
  funext b
  show UInt8.ofNat b.toNat = b
  exact UInt8.ofNat_toNat
theorem hexText_low {ns : List Int} (hn : ∀ n ∈ ns, 0 ≤ n ∧ n < 256) : ∀ c ∈ (hexText ns).cps, c < 128 := by
  intro c hc
  have := hexText_hex hn c (Array.mem_toList_iff.mpr hc)
  unfold HexC at this
  omega
end
end Mine
end
section
open PySem PySem.W PyProof.Rows PySem.Calls
set_option maxRecDepth 100000
set_option maxHeartbeats 8000000
namespace Mine
section
variable {w : World} {mean : ExcName → Option Value} {mg mb : Str → Option Value} {s : Shared} {E : Value → Shared → Prop} {Q : Value → Shared → Prop}
theorem due_rows {e : Env} {h₀ : Heap} {L : Addr} {m : Str → Option Value} {news : List (Addr × Obj)} {rows r0 r1 : Addr} {n0 n1 n2 : Nat} {vs0 vs1 : List Value} {g0 g1 : List Int} (W : Ground0 w mean mg mb h₀) (F : Fr h₀ L s.heap m) (N : News h₀ L s.heap news)
    (mR : (rows, PySem.W.listOf #[.ref r0, .ref r1] n0) ∈ news) (m0 : (r0, PySem.W.listOf (List.toArray vs0) n1) ∈ news) (m1 : (r1, PySem.W.listOf (List.toArray vs1) n2) ∈ news)
    (i0 : IntsAre vs0 g0) (i1 : IntsAre vs1 g1) (l0 : g0.length ≤ 40) (l1 : g1.length ≤ 40)
    (hok : okRow g0 ∧ okRow g1 → ∀ h' k a n t1 t2, Fr h₀ L h' m → News h₀ L h' ((a, { cls := .type "tuple", data := .seq #[.int (numOf g0) t1, .int (numOf g1) t2] n }) :: news) → Q (.ref a) { s with heap := h', toks := k })
    (hno : ¬ (okRow g0 ∧ okRow g1) → ∀ h' k t', Fr h₀ L h' m → News h₀ L h' news → Q (.str (Str.ofString "refused") t') { s with heap := h', toks := k }) :
    wpAny (model PR w) (callerA.deeper e) (call (.ref 144) [.ref rows]) Q E s := by
  refine liftC (n := 400) (Nat.le_refl _) (due_call (W.keeps F.keep) ⟨_, (N _ mR).1, rfl, _, rfl⟩ ⟨_, (N _ m0).1, rfl, _, rfl⟩ ⟨_, (N _ m1).1, rfl, _, rfl⟩ i0 i1 l0 l1 ?_ ?_)
  · intro k0 k1 h' k a n t1 t2 gr e hn
    exact hok ⟨k0, k1⟩ h' k a n t1 t2 (F.keptAll gr) (news_add F N gr e hn)
  · intro hN h' k t' gr
    exact hno hN h' k t' (F.keptAll gr) (N.grown gr)
theorem halves_K {e : Env} {h₀ : Heap} {L : Addr} {m : Str → Option Value} {news : List (Addr × Obj)} {r : Addr} {n : Nat} {vs : List Value} {g : List Int} (W : Ground0 w mean mg mb h₀) (F : Fr h₀ L s.heap m) (N : News h₀ L s.heap news)
    (mR : (r, PySem.W.listOf (List.toArray vs) n) ∈ news) (i0 : IntsAre vs g) (l0 : g.length ≤ 40)
    (hq : ∀ h' k a vs' n', Fr h₀ L h' m → News h₀ L h' ((a, PySem.W.listOf (List.toArray vs') n') :: news) → AllNe a news → IntsAre vs' (halvesOf g) → Q (.ref a) { s with heap := h', toks := k }) :
    wpAny (model PR w) (callerA.deeper e) (call (.ref 137) [.ref r]) Q E s := by
  refine liftC (n := 420) (by decide) (halves_call (W.keeps F.keep) ⟨_, (N _ mR).1, rfl, _, rfl⟩ i0 l0 ?_)
  intro h' k a vs' n' gr e hn hI
  exact hq h' k a vs' n' (F.keptAll gr) (news_add F N gr e hn) (news_off N hn) hI
end
end Mine
end
section
open PySem PySem.W PyProof.Rows PySem.Calls
set_option maxRecDepth 100000
set_option maxHeartbeats 2000000
namespace Mine
def ByteAt (b : Array UInt8) (i : Nat) (v : Value) : Prop := ∃ c u, b[i]? = some c ∧ v = Value.int (c.toNat : Int) u
theorem bytes_len : typeLookup (.type "bytes") "__len__" = pure (some (.builtin "bytes.__len__")) := by rw [typeLookup_type, builtinLookup_eq_fast]; kernel_rfl
section
variable {prog : Program} {w : World} {A : Around} {E : Value → Shared → Prop} {s : Shared}
theorem wpAny_extend_bytes {R : Result → Shared → Prop} (hh : A.handled = none) (b : Array UInt8) (t : Tok) (S : Addr) (res : Value) (c₀ : Nat) (hS : s.heap.get? S = some { cls := .type "list", data := .seq #[] c₀ })
    (hR : ∀ h' tk acc' c', (∀ b o, b ≠ S → s.heap.get? b = some o → h'.get? b = some o) → h'.get? S = some { cls := .type "list", dict := none, data := .seq acc' c', slots := #[] } →
      ItemsOf (ByteAt b) acc' b.size → R (.ok (.ret res)) { s with heap := h', toks := tk }) (hn : b.size ≤ sizeLine) :
    wpAny (model prog w) A.in1 (Builtin.List.listExtendWith (.ref S) (.bytes b t) res)
      (fun fin s' => match fin with | .done f => R (.ok f) s' | .again c' => c'.quiet = true ∧ codeAny (model prog w) A c' R s') (fun e s' => R (.error e) s') s := by
  have hSI : S ≠ s.heap.objs.size := Nat.ne_of_lt (Heap.lt_size hS)
  have hSf : S ∉ [s.heap.objs.size] := fun hm => hSI (List.mem_singleton.mp hm)
  unfold Builtin.List.listExtendWith
  refine wpAny_bind (wpAny_typeOf (T := "bytes") (v := .bytes b t) (typeIs_bytes _ _ _) ?_)
  have h1 : Builtin.List.listSameRef (.ref S) (.bytes b t) = false := rfl
  have h2 : (Value.type "bytes" == Value.type "list") = false := by decide
  have h3 : (Value.type "bytes" == Value.type "tuple") = false := by decide
  simp only [h1, h2, h3, Bool.or_false, Bool.false_eq_true, if_false]
  refine wpAny_bind (KBw.pyIter_bytes ?_)
  refine wpAny_bind (wpAny_holding ?_)
  unfold Builtin.List.listLengthHint
  refine wpAny_bind (wpAny_specialOf (T := "bytes") (v := .bytes b t) (typeIs_bytes _ _ _) bytes_len ?_)
  wp_delta
  refine wpAny_bind (wpAny_isInstance (T := "bytes") (v := .bytes b t) (b := true) (typeIs_bytes _ _ _) (by rw [isSubtype_type]; kernel_rfl) ?_)
  show wpAny _ _ (typeOf (Value.bytes b t) >>= _) _ _ _
  refine wpAny_bind (wpAny_typeOf (T := "bytes") (v := .bytes b t) (typeIs_bytes _ _ _) ?_)
  refine wpAny_pure ?_
  rw [if_neg (by decide)]
  refine wpAny_pure ⟨plainId_quiet F.plain_extend_loop _, codeAny_extend_loopS (KBw.walks (A := A.in1) hh s.heap.objs.size b t).toS hn _ hSf _ b.size 0 _ _ _ rfl (Nat.zero_le _) ⟨_, Heap.get?_push_size _ rfl, rfl, rfl⟩ (Heap.get?_push_of_some _ hS) (ItemsOf.nil _) fun s' acc' c' hm hS' hacc => ?_⟩
  rw [Moved.eq_with hm]
  refine hR s'.heap s'.toks acc' c' (fun b ob hb e => hm.heap b ob (fun hmem => ?_) (Heap.get?_push_of_some _ e)) hS' hacc
  rcases List.mem_cons.mp hmem with e' | hmem
  · exact hb e'
  · exact absurd (Heap.lt_size e) (by rw [List.mem_singleton.mp hmem]; exact Nat.lt_irrefl _)
theorem wpAny_list_init_bytes {R : Result → Shared → Prop} (hh : A.handled = none) (b : Array UInt8) (t : Tok) (S : Addr) (hS : s.heap.get? S = some { cls := .type "list", data := .seq #[] })
    (hR : ∀ h' tk acc' c', (∀ b o, b ≠ S → s.heap.get? b = some o → h'.get? b = some o) → h'.get? S = some { cls := .type "list", dict := none, data := .seq acc' c', slots := #[] } →
      ItemsOf (ByteAt b) acc' b.size → R (.ok (.ret .none)) { s with heap := h', toks := tk }) (hn : b.size ≤ sizeLine) :
    wpAny (model prog w) A.in1 (Builtin.«list.__init__» ⟨[.ref S, .bytes b t], []⟩)
      (fun fin s' => match fin with | .done f => R (.ok f) s' | .again c' => c'.quiet = true ∧ codeAny (model prog w) A c' R s') (fun e s' => R (.error e) s') s := by
  show wpAny _ _ (do let old ← Builtin.List.listItems (.ref S); Builtin.List.listUpdate (.ref S) (fun _ => #[]); letGo old.toList.reverse; Builtin.List.listExtendWith (.ref S) (.bytes b t) .none) _ _ s
  refine wpAny_bind ?_
  unfold Builtin.List.listItems
  refine wpAny_bind (wpAny_seqItems hS rfl (wpAny_pure ?_))
  show wpAny _ _ (updateSeq S (fun _ => #[]) >>= fun _ => letGo (#[] : Array Value).toList.reverse >>= fun _ => Builtin.List.listExtendWith (.ref S) (.bytes b t) .none) _ _ s
  refine wpAny_bind (wpAny_updateSeq hS rfl ?_)
  have hS₂ := Heap.get?_update_self (Obj.mapSeq (fun _ => (#[] : Array Value))) hS rfl
  have oth : ∀ b o, b ≠ S → s.heap.get? b = some o → (s.heap.update S (Obj.mapSeq (fun _ => (#[] : Array Value)))).get? b = some o :=
    fun b o hb e => (Heap.get?_update_other _ _ (Ne.symm hb)).trans e
  refine wpAny_bind (wpAny_letGo ?_)
  refine wpAny_extend_bytes (hn := hn) hh b t S .none _ hS₂ fun h' tk acc' c' hk hS' hacc => ?_
  exact hR h' tk acc' c' (fun b o hb e => hk b o hb (oth b o hb e)) hS' hacc
theorem call_list_bytes {Q : Value → Shared → Prop} (hh : A.handled = none) (b : Array UInt8) (t : Tok)
    (hQ : ∀ h' tk acc' c', (∀ b o, s.heap.get? b = some o → h'.get? b = some o) →
      h'.get? s.heap.objs.size = some { cls := .type "list", dict := none, data := .seq acc' c', slots := #[] } → ItemsOf (ByteAt b) acc' b.size → Q (.ref s.heap.objs.size) { s with heap := h', toks := tk }) (hn : b.size ≤ sizeLine) :
    wpAny (model prog w) A (call (.type "list") [.bytes b t]) Q E s := by
  refine callType_codes (Q₁ := fun obj s₁ => obj = .ref s.heap.objs.size ∧ s₁ = { s with heap := s.heap.push { cls := .type "list", data := .seq #[] } }) F.called_list (F.typeCall_list_1 _) F.entry_list_init
    (code_list_new _ ⟨rfl, rfl⟩) fun obj s₁ h₁ => ?_
  obtain ⟨rfl, rfl⟩ := h₁
  have hS : (s.heap.push { cls := .type "list", data := .seq #[] }).get? s.heap.objs.size = some { cls := .type "list", data := .seq #[] } := Heap.get?_push_size _ rfl
  refine ⟨⟨_, hS, rfl⟩, F.args_list_init_2 _ _, wpAny_list_init_bytes (A := A.in1) (hn := hn) hh b t _ hS fun h' tk acc' c' hk hS' hacc => ?_⟩
  exact ⟨rfl, hQ h' tk acc' c' (fun b o e => hk b o (Nat.ne_of_lt (Heap.lt_size e)) (Heap.get?_push_of_some _ e)) hS' hacc⟩
end
end Mine
end
section
open PySem PySem.W PyProof.Rows PySem.Calls
set_option maxRecDepth 100000
namespace Mine
theorem ints_get9 : ∀ {ys : List Value} {ns : List Int}, ys.length = ns.length → (∀ (j : Nat) (v : Value), ys[j]? = some v → ∃ n t, ns[j]? = some n ∧ v = Value.int n t) → IntsAre ys ns
  | [], [], _, _ => .nil
  | [], _ :: _, h, _ => nomatch h
  | _ :: _, [], h, _ => nomatch h
  | v :: ys, n :: ns, h, hg => by
    obtain ⟨n', t, e, rfl⟩ := hg 0 v rfl
    have e' : n = n' := Option.some.inj e
    subst e'
    exact .cons n t (ints_get9 (by simpa using h) fun j v hv => by
      have := hg (j + 1) v (by simpa using hv)
      simpa using this)
section
variable {prog : Program} {w : World} {A : Around} {E : Value → Shared → Prop} {s : Shared} {Q : Value → Shared → Prop} {h₀ : Heap} {L : Addr} {m : Str → Option Value} {news : List (Addr × Obj)} {g : List Int} {t : Tok}
theorem list_hex (hh : A.handled = none) (F : Fr h₀ L s.heap m) (N : News h₀ L s.heap news) (hb : ∀ n ∈ g, 0 ≤ n ∧ n < 256) (hl : g.length ≤ 40)
    (hq : ∀ h' k a ys c, Fr h₀ L h' m → News h₀ L h' ((a, PySem.W.listOf (List.toArray ys) c) :: news) → AllNe a news → IntsAre ys (hexInts g) → Q (.ref a) { s with heap := h', toks := k }) :
    wpAny (model prog w) A (call (.type "list") [.bytes (byteArr (hexInts g)) t]) Q E s := by
  refine call_list_bytes hh _ t (fun h' tk acc' c' hk hS' hacc => ?_) (by rw [byteArr_size, hexInts_length, sizeLine_eq]; omega)
  have hn : s.heap.get? s.heap.objs.size = none := Heap.get?_none_of_le (Nat.le_refl _)
  refine hq h' tk _ acc'.toList c' (F.keptAll hk) (news_add F N hk (by simpa [PySem.W.listOf] using hS') hn) (news_off N hn) ?_
  refine ints_get9 ?_ fun j v hv => ?_
  · rw [Array.length_toList, hacc.1, byteArr_size]
  · obtain ⟨c, u, hc, rfl⟩ := hacc.2 j v (by simpa using hv)
    refine ⟨(c.toNat : Int), u, ?_, rfl⟩
    unfold byteArr at hc
    simp only [List.getElem?_toArray, List.getElem?_map] at hc
    cases e : (hexInts g)[j]? with
    | none => rw [e] at hc; cases hc
    | some n =>
      rw [e] at hc
      have hc' : n.toNat.toUInt8 = c := Option.some.inj hc
      have hn' := hexInts_in hb n (List.mem_of_getElem? e)
      rw [← hc', byte_toNat (by omega)]
      congr 1
      omega
end
end Mine
end
section
open PySem PySem.W PyProof.Rows PySem.Calls
set_option maxRecDepth 100000
set_option maxHeartbeats 8000000

namespace Mine
def stopP (p : Prop) : Prop := p
theorem stopP_in {p : Prop} (h : stopP p) : p := h
theorem stopP_on {p : Prop} (h : p) : stopP p := h
theorem fr_as4 {h₀ h : Heap} {L : Addr} {m : Str → Option Value} {c a b : Str} {vc va vb : Value} (F : Fr h₀ L h m) (ha : m a = some va) (hb : m b = some vb) (hc : m c = some vc) : Fr h₀ L h (fun y => if y = a then some va else if y = b then some vb else if y = c then some vc else m y) := by
  have e : (fun y => if y = a then some va else if y = b then some vb else if y = c then some vc else m y) = m := by
    funext y
    split
    · rename_i q; rw [q, ha]
    · split
      · rename_i q; rw [q, hb]
      · split
        · rename_i q; rw [q, hc]
        · rfl
  rw [e]; exact F
section
variable {w : World} {mean : ExcName → Option Value} {mg mb : Str → Option Value} {s : Shared} {E : Value → Shared → Prop} {Q : Flow → Shared → Prop}
theorem size40 {vs : List Value} {ns : List Int} (h : IntsAre vs ns) (hn : ns.length ≤ 40) : vs.length ≤ sizeLine := by rw [h.length, sizeLine_eq]; omega
local macro_rules | `(tactic| walk_at "call type:bytes") => `(tactic| (k_here; (with_reducible rename Fr _ _ _ _ => kF); (with_reducible rename News _ _ _ _ => kN); first
  | (refine call_bytes_ints (by is_list) (by assumption) (by assumption) (size40 (by assumption) (by assumption)) rfl ?_; intro h' t' k' gr'; (have F' := Fr.keptAll kF gr'); (have N' := News.grown kN gr'); k_sweep)
  | fail "no bytes"))
local macro_rules | `(tactic| walk_at "call ref") => `(tactic| (k_here; (with_reducible show wpAny _ _ (call (Value.ref 115) _) _ _ _); (with_reducible rename Fr _ _ _ _ => kF); (with_reducible rename News _ _ _ _ => kN); refine liftC (n := 400) (Nat.le_refl _) (b16encode_call (Ground0.keeps (by assumption) (Fr.keep kF)) (by assumption) (Nat.le_trans (by assumption) (by decide : 40 ≤ 400)) ?_); intro h' k' t' gr'; (have F' := Fr.keptAll kF gr'); (have N' := News.grown kN gr'); k_sweep))
local macro_rules | `(tactic| walk_at "CompRest") => `(tactic| (with_unfolding_all first
  | (refine LCg.CompRest.succ ?_; intro v' I' oI' C' oC' D' m' h' tk' E' hv' hC' hx' F' N' off' ne'; (first | lcg_open hv' | (obtain ⟨t9', hv9'⟩ := hv'; subst hv9')))
  | refine LCg.CompRest.zero ?_))
local macro_rules | `(tactic| lcg_off) => `(tactic| first | assumption | (refine And.intro ⟨Ne.symm (by assumption), Ne.symm (by assumption), Ne.symm (by assumption)⟩ ?_; lcg_off))
local macro_rules | `(tactic| walk_at "FinE") => `(tactic| ((unfold LCg.FinE); intro D' h' tk' F' N' o1'; (have oa' := o1'.1); (have ob' := o1'.2.1); (have oc' := o1'.2.2.1); (have od' := o1'.2.2.2.1); (try simp only [List.nil_append, List.cons_append] at N'); (try dsimp only)))
local macro_rules | `(tactic| walk_at "FinA") => `(tactic| ((unfold LCg.FinA); intro D' h' tk' F' N' o1'; (try simp only [List.nil_append, List.cons_append] at N'); (try dsimp only)))
local macro_rules | `(tactic| walk_at "call builtin:bytes.decode") => `(tactic| (k_here; refine decode_hex (by assumption) (by assumption) ?_; intro t' k'))
local macro_rules | `(tactic| walk_at "call ref") => `(tactic| (k_here; (with_reducible show wpAny _ _ (call (Value.ref 151) _) _ _ _); (with_reducible rename Fr _ _ _ _ => kF); (with_reducible rename News _ _ _ _ => kN); refine told_rows (by assumption) kF kN rfl (by assumption) (by assumption) (by assumption) (by assumption) ?ga ?gb; (case' ga => (intro hOk' h' k' a' n' t1' t2' F' N'; k_sweep)); (case' gb => (intro hNo' h' k' t' F' N'; k_sweep))))
local macro_rules | `(tactic| walk_at "call ref") => `(tactic| (k_here; (with_reducible show wpAny _ _ (call (Value.ref 144) _) _ _ _); (with_reducible rename Fr _ _ _ _ => kF); (with_reducible rename News _ _ _ _ => kN); refine due_rows (by assumption) kF kN (by k_mem) (by k_mem) (by k_mem) (by assumption) (by assumption) (by assumption) (by assumption) ?ga ?gb; (case' ga => first | (intro hA'; exact absurd hA' (by assumption)) | (intro hA' h' k' a' n' t1' t2' F' N'; k_sweep)); (try (case' gb => first | (intro hN'; exact absurd (by assumption) hN') | (intro hN' h' k' t' F' N'; k_sweep)))))
local macro_rules | `(tactic| walk_at "binaryOp Add str str") => `(tactic| (k_here; first
  | (refine add_dot (by assumption) ?_; intro t' k')
  | (refine add_rest (by assumption) (by assumption) ?_; intro t' k')))
local macro_rules | `(tactic| walk_at "eval ListComp") => `(tactic| (k_here; (with_reducible show wpAny _ _ (eval (Expr.ListComp (Expr.BinOp _ _ _ _) _ _ _) _) _ _ _); k_dflt (refine LCg.ListComp_U (F₀ := by k_asm) (by with_unfolding_all rfl) (by decide) (by rfl) (by decide) (by rfl) ?_)))
local macro_rules | `(tactic| walk_at "CompSrc") => `(tactic| ((with_reducible show LCg.CompSrc _ _ _ _ _ _ _ (Expr.BinOp _ _ _ _) _ _ _ _ _ _); refine stopP_in ?_))
local macro_rules | `(tactic| walk_at "call type:type") => `(tactic| (k_here; first
  | ((with_reducible show wpAny _ _ (call (Value.type "type") [Value.bytes _ _]) _ _ _); refine type_bytes ?_)
  | ((with_reducible show wpAny _ _ (call (Value.type "type") [Value.int _ _]) _ _ _); refine type_int ?_)
  | ((with_reducible show wpAny _ _ (call (Value.type "type") [Value.str _ _]) _ _ _); refine type_str ?_)))
local macro_rules | `(tactic| walk_at "call type:list") => `(tactic| (k_here; (with_reducible show wpAny _ _ (call (Value.type "list") [Value.bytes _ _]) _ _ _); (with_reducible rename Fr _ _ _ _ => kF); (with_reducible rename News _ _ _ _ => kN); refine list_hex rfl kF kN (by assumption) (by assumption) ?_; intro h' k' a' ys' c' F' N' off' hI'; k_sweep))
theorem halves_size {vs : List Value} {g : List Int} (h : IntsAre vs (halvesOf g)) (hl : g.length ≤ 40) : vs.toArray.size ≤ sizeLine := by
  rw [List.size_toArray, h.length, halvesOf_length, sizeLine_eq]; omega
theorem turn_end {h₀ h hb : Heap} {L I R first a b q0 q1 : Addr} {itO : Obj} {m : Str → Option Value} {all : List (Addr × Obj)} {c0 c1 c2 n3 n4 n5 tk tb i : Nat} {ys0 ys1 us0 us1 : List Value} {f0 f1 g0 g1 : List Int} (F : Fr h₀ L h m) (N : News h₀ L h all) (hit : itO.cls = .type "range_iterator") (hr : m (Str.ofString "rows") = some (.ref R)) (hf : m (Str.ofString "first") = some (.ref first))
    (mI : (I, itO) ∈ all) (mR : (R, PySem.W.listOf #[.ref a, .ref b] c0) ∈ all) (ma : (a, PySem.W.listOf (List.toArray ys0) c1) ∈ all) (mb : (b, PySem.W.listOf (List.toArray ys1) c2) ∈ all) (mf : (first, PySem.W.listOf #[.ref q0, .ref q1] n3) ∈ all) (mq0 : (q0, PySem.W.listOf (List.toArray us0) n4) ∈ all) (mq1 : (q1, PySem.W.listOf (List.toArray us1) n5) ∈ all)
    (i0 : IntsAre ys0 (hexInts g0)) (i1 : IntsAre ys1 (hexInts g1)) (j0 : IntsAre us0 f0) (j1 : IntsAre us1 f1) (e0 : g0 = hexIt i f0) (e1 : g1 = hexIt i f1) : UnrEnd h₀ L { s with heap := hb, toks := tb } I itO (TurnSt f0 f1 (i + 1)) { s with heap := h, toks := tk } := by
  subst e0 e1
  have off : ∀ {o : Obj}, o.cls = .type "list" → o.cls ≠ itO.cls := fun e q => by rw [e, hit] at q; exact absurd (Value.type.inj q) (by decide)
  exact UnrEnd.intro2 F N [(R, PySem.W.listOf #[.ref a, .ref b] c0), (a, PySem.W.listOf (List.toArray ys0) c1), (b, PySem.W.listOf (List.toArray ys1) c2), (first, PySem.W.listOf #[.ref q0, .ref q1] n3), (q0, PySem.W.listOf (List.toArray us0) n4), (q1, PySem.W.listOf (List.toArray us1) n5)] mI ⟨mR, ma, mb, mf, mq0, mq1, trivial⟩
    ⟨off rfl, off rfl, off rfl, off rfl, off rfl, off rfl, trivial⟩ ⟨R, first, a, b, q0, q1, c0, c1, c2, n3, n4, n5, ys0, ys1, us0, us1, hr, hf, rfl, i0, i1, j0, j1⟩
def tailBody : List Stmt := turnBody.drop 4
theorem tail_step {h₀ : Heap} {L fa I : Addr} {cd : Value} {f0 f1 g0 g1 : List Int} {m : Str → Option Value} {h hb : Heap} {tk tb : Nat} {itO : Obj} {rows first r0 r1 q0 q1 D : Addr} {n0 n1 n2 n3 n4 n5 : Nat} {vs0 vs1 us0 us1 : List Value} {w0 w1 : Tok} {i : Nat} (W : Ground0 w mean mg mb h₀) (hit : itO.cls = .type "range_iterator")
    (e0 : g0 = hexIt i f0) (e1 : g1 = hexIt i f1) (hb0 : ∀ n ∈ g0, 0 ≤ n ∧ n < 256) (hb1 : ∀ n ∈ g1, 0 ≤ n ∧ n < 256) (hl0 : g0.length ≤ 40) (hl1 : g1.length ≤ 40) (i0 : IntsAre vs0 g0) (i1 : IntsAre vs1 g1) (j0 : IntsAre us0 f0) (j1 : IntsAre us1 f1)
    {sc : Scope} (hsc : sc = lawScope) (F : Fr h₀ L h m) (hr : m (Str.ofString "rows") = some (.ref rows)) (hf : m (Str.ofString "first") = some (.ref first)) (hw : m (Str.ofString "writings") = some (.ref D))
    (N : News h₀ L h [(D, LCg.lst [.bytes (byteArr (hexInts g0)) w0, .bytes (byteArr (hexInts g1)) w1]), (I, itO), (rows, PySem.W.listOf #[.ref r0, .ref r1] n0), (r0, PySem.W.listOf (List.toArray vs0) n1), (r1, PySem.W.listOf (List.toArray vs1) n2), (first, PySem.W.listOf #[.ref q0, .ref q1] n3), (q0, PySem.W.listOf (List.toArray us0) n4), (q1, PySem.W.listOf (List.toArray us1) n5)]) :
    wpAny (model PR w) (callerA.deeper (envOf (Str.ofString "law") sc L fa cd)) (execs tailBody (envOf (Str.ofString "law") sc L fa cd)) (UnrPost h₀ L { s with heap := hb, toks := tb } I itO (TurnSt f0 f1 (i + 1)) Q) (fun _ _ => False) { s with heap := h, toks := tk } := by
  delta PR
  have W' := W
  obtain ⟨X, T⟩ := W'
  have X' := X
  revert X'
  k_fill
  intro _
  w_top on
  conv in tailBody => whnf
  conv at hsc => rhs; whnf
  subst hsc
  have F := fr_as4 F hr hf hw
  k_steps
  (with_reducible rename Fr _ _ _ _ => kF); (with_reducible rename News _ _ _ _ => kN)
  refine halves_K (vs := vs0) W kF kN (by k_mem) i0 hl0 ?_
  intro h' k' a' vs' n' F' N' off0' hI0'
  have oa := off0'.1
  have ob := off0'.2.1
  have oc := off0'.2.2.1
  k_sweep
  k_steps
  refine stopP_on ?_
  (with_reducible rename Fr _ _ _ _ => kF); (with_reducible rename News _ _ _ _ => kN)
  refine LCg.CompSrc.ledger (its := vs'.toArray) rfl kF kN (by k_mem) (halves_size hI0' hl0) ?_
  intro g'
  refine kcf_list (fun h => 48 + h + h.fdiv 10 * 7) hI0' (fun k2 t2 I2 oI2 C2 oC2 D2 m2 ys2 h2 tk2 E2 hk2 hC2 hx2 F2 N2 off2 ne2 mk2 => ?_) ?_
  · k_steps
  unfold KPfDone
  intro ys0 hys0
  k_steps
  (with_reducible rename Fr _ _ _ _ => kF); (with_reducible rename News _ _ _ _ => kN)
  refine halves_K (vs := vs1) W kF kN (by k_mem) i1 hl1 ?_
  intro h' k' a1' vs1' n1' F' N' off1' hI1'
  have oa1 := off1'.1
  have ob1 := off1'.2.1
  have oc1 := off1'.2.2.1
  k_sweep
  k_steps
  refine stopP_on ?_
  (with_reducible rename Fr _ _ _ _ => kF); (with_reducible rename News _ _ _ _ => kN)
  refine LCg.CompSrc.ledger (its := vs1'.toArray) rfl kF kN (by k_mem) (halves_size hI1' hl1) ?_
  intro g'
  refine kcf_list (fun h => 48 + h + h.fdiv 10 * 7) hI1' (fun k2 t2 I2 oI2 C2 oC2 D2 m2 ys2 h2 tk2 E2 hk2 hC2 hx2 F2 N2 off2 ne2 mk2 => ?_) ?_
  · k_steps
  unfold KPfDone
  intro ys1 hys1
  k_steps
  · (with_reducible rename Fr _ _ _ _ => kF); (with_reducible rename News _ _ _ _ => kN)
    exact turn_end kF kN hit rfl rfl (by k_mem) (List.Mem.tail _ (List.Mem.tail _ (List.Mem.head _))) (by k_mem) (by k_mem) (by k_mem) (by k_mem) (by k_mem) (by assumption) (by assumption) j0 j1 e0 e1
  · exact absurd rfl (by assumption)
  · exact absurd rfl (by assumption)
end
end Mine
end
section
open PySem PySem.W PyProof.Rows PySem.Calls
set_option maxRecDepth 100000
namespace Mine
section
variable {prog : Program} {w : World} {e : Env} {E : Value → Shared → Prop} {s : Shared} {Q : Value → Shared → Prop} {h₀ : Heap} {L a : Addr} {news : List (Addr × Obj)} {items : Array Value} {n : Nat} {x : PySem.Str} {u : Tok}
theorem ne_tuple_str (N : News h₀ L s.heap news) (hm : (a, ({ cls := .type "tuple", data := .seq items n } : Obj)) ∈ news) (hq : Q (.bool true) s) :
    wpAny (model prog w) (callerA.deeper e) (compareOp .NotEq (.ref a) (.str x u)) Q E s :=
  EqBoolInt.of_rcne (SeqAt.RcNeAt.tuple_str x u ⟨_, (N _ hm).1, rfl, _, rfl⟩ (Nat.lt_of_le_of_lt caller_units (by decide))) hq
theorem len_fig {A : Around} {g : List Int} {t : Tok} (hn : ∀ n ∈ g, 0 ≤ n ∧ n < 256) (hz : g.length ≤ 40) (ok : okRow g) (h : ∀ t' k, Q (.int ((PySem.Str.ofString (toString (numOf g))).length : Int) t') { s with toks := k }) :
    wpAny (model prog w) A (call (.builtin "len") [.str (PySem.Str.ofString (toString (numOf g))) t]) Q E s :=
  PyProof.Rows.len_str (by have := fig_length hn ok; omega) (h _ _)
end
end Mine
end
section
open PySem PySem.W PyProof.Rows PySem.Calls
set_option maxRecDepth 100000
set_option maxHeartbeats 8000000
namespace Mine
def lay : List (Str × Value) → (Str → Option Value) → Str → Option Value
  | [], m => m
  | p :: r, m => fun y => if y = p.1 then some p.2 else lay r m y
theorem lay_eq {m : Str → Option Value} : ∀ {l : List (Str × Value)}, (∀ p ∈ l, m p.1 = some p.2) → lay l m = m
  | [], _ => rfl
  | p :: r, h => by
    funext y
    show (if y = p.1 then some p.2 else lay r m y) = m y
    rw [lay_eq fun q hq => h q (List.mem_cons_of_mem _ hq)]
    split
    · rename_i q; rw [q]; exact (h p (List.mem_cons_self ..)).symm
    · rfl
def LayAt (m : Str → Option Value) : List (Str × Value) → Prop
  | [] => True
  | p :: r => m p.1 = some p.2 ∧ LayAt m r
theorem layAt_of {m : Str → Option Value} : ∀ {l : List (Str × Value)}, LayAt m l → ∀ p ∈ l, m p.1 = some p.2
  | [], _, _, h => nomatch h
  | _ :: _, h, p, hp => by
    rcases List.mem_cons.mp hp with rfl | hp
    · exact h.1
    · exact layAt_of h.2 p hp
theorem layAt_to {m : Str → Option Value} : ∀ {l : List (Str × Value)}, (∀ p ∈ l, m p.1 = some p.2) → LayAt m l
  | [], _ => trivial
  | _ :: _, h => ⟨h _ (List.mem_cons_self ..), layAt_to fun p hp => h p (List.mem_cons_of_mem _ hp)⟩
def LayOff (a b : Str) : List (Str × Value) → Prop
  | [] => True
  | p :: r => (p.1 ≠ a ∧ p.1 ≠ b) ∧ LayOff a b r
theorem layOff_of {a b : Str} : ∀ {l : List (Str × Value)}, LayOff a b l → ∀ p ∈ l, p.1 ≠ a ∧ p.1 ≠ b
  | [], _, _, h => nomatch h
  | _ :: _, h, p, hp => by
    rcases List.mem_cons.mp hp with rfl | hp
    · exact h.1
    · exact layOff_of h.2 p hp
theorem fr_lay {h₀ h : Heap} {L : Addr} {m : Str → Option Value} {l : List (Str × Value)} (F : Fr h₀ L h m) (hl : LayAt m l) : Fr h₀ L h (lay l m) := by
  rw [lay_eq (layAt_of hl)]; exact F
theorem fr_on {h₀ h : Heap} {L : Addr} {m : Str → Option Value} {a b : Str} {va vb : Value} (F : Fr h₀ L h (fun y => if y = a then some va else m y)) (hb : m b = some vb) : Fr h₀ L h (fun y => if y = a then some va else if y = b then some vb else m y) := by
  have e : (fun y => if y = a then some va else if y = b then some vb else m y) = fun y => if y = a then some va else m y := by
    funext y
    split
    · rfl
    · split
      · rename_i q; rw [q, hb]
      · rfl
  rw [e]; exact F
section
variable {w : World} {mean : ExcName → Option Value} {mg mb : Str → Option Value} {s : Shared} {Q : Flow → Shared → Prop}
local macro_rules | `(tactic| walk_at "call ref") => `(tactic| (k_here; (with_reducible show wpAny _ _ (call (Value.ref 123) [Value.bytes _ _]) _ _ _); (with_reducible rename Fr _ _ _ _ => kF); (with_reducible rename News _ _ _ _ => kN); refine liftC (n := 410) (Nat.le_of_ble_eq_true rfl) (b16d_bytes (Ground0.keeps (by assumption) (Fr.keep kF)) (by assumption) (Nat.le_trans (by assumption) (by decide : 40 ≤ 400)) ?_); intro h' k' t' gr'; (have F' := Fr.keptAll kF gr'); (have N' := News.grown kN gr'); k_sweep))
def AgainSt (l : List (Str × Value)) (N₀ : List (Addr × Obj)) (f : List Int) (i j : Nat) (m : Str → Option Value) (news : List (Addr × Obj)) : Prop :=
  news = N₀ ∧ (∃ tb, m (Str.ofString "back") = some (.bytes (byteArr (hexIt (i - j) f)) tb)) ∧ ∀ p ∈ l, m p.1 = some p.2
theorem again_loop {h₀ : Heap} {L fa r : Addr} {cd : Value} {f : List Int} {i : Nat} {m₀ : Str → Option Value} {news : List (Addr × Obj)} {b₀ : Int} {t₀ u₀ v₀ tb : Tok} {p1 p2 p3 p4 p5 : Pos} {sc : Scope} (l : List (Str × Value))
    (hsc : sc = lawScope) (W : Ground0 w mean mg mb h₀) (hi : i < 3) (o : Oct f) (hl' : LayOff (Str.ofString "again") (Str.ofString "back") l)
    (hr : IsRange s.heap r 0 b₀ 1 t₀ u₀ v₀) (hb : b₀ = (i : Int)) (F : Fr h₀ L s.heap m₀) (N : News h₀ L s.heap news)
    (hback : m₀ (Str.ofString "back") = some (.bytes (byteArr (hexIt i f)) tb)) (hm' : LayAt m₀ l)
    (done : ∀ m h tk tb, Fr h₀ L h m → News h₀ L h news → m (Str.ofString "back") = some (.bytes (byteArr f) tb) → LayAt m l → Q .next { s with heap := h, toks := tk }) :
    wpAny (model PR w) (callerA.deeper (envOf (Str.ofString "law") sc L fa cd)) (pyIter (.ref r))
      (fun it s₂ => LoopAtV PR w (callerA.deeper (envOf (Str.ofString "law") sc L fa cd)) h₀ (envOf (Str.ofString "law") sc L fa cd) (Str.ofString "again")
        [.Assign [.Name (Str.ofString "back") p1] (.Call (.Name (Str.ofString "b16decode") p2) [.Name (Str.ofString "back") p3] [] p4) p5] Q (fun _ _ => False) it s₂) (fun _ _ => False) s := by
  have hl := layOff_of hl'
  have hm := layAt_of hm'
  refine iter_rangeJ (AgainSt l news f i) rfl hr hb (by omega) F N ⟨rfl, ⟨tb, by rw [Nat.sub_zero]; exact hback⟩, hm⟩ ?turn ?done
  case done =>
    rintro m n' h tk ⟨rfl, ⟨tb', hb'⟩, hm'⟩ F' N'
    rw [Nat.sub_self] at hb'
    exact done m h tk tb' F' N' hb' (layAt_to hm')
  case turn =>
    clear F hback hm hm' hl'
    rintro I hI j hj m n' t h tk ⟨rfl, ⟨tb', hb'⟩, hm'⟩ F' N'
    have hIt : (itR ((j + 1 : Nat) : Int) ((i : Int) - ((j + 1 : Nat) : Int))).cls = .type "range_iterator" := rfl
    revert N' hIt
    generalize itR ((j + 1 : Nat) : Int) ((i : Int) - ((j + 1 : Nat) : Int)) = itO
    intro N' hIt
    have e1 : i - j = (i - (j + 1)) + 1 := by omega
    rw [e1] at hb'
    have hg : ∀ n ∈ hexIt (i - (j + 1)) f, 0 ≤ n ∧ n < 256 := hexIt_in o _
    have hz : (hexIt (i - (j + 1)) f).length ≤ 40 := hexIt_le o (by omega)
    have hb' : m (Str.ofString "back") = some (.bytes (byteArr (hexInts (hexIt (i - (j + 1)) f))) tb') := hb'
    have fin : ∀ {m' : Str → Option Value} {h2 : Heap} {tk2 : Nat} {t2 : Tok}, Fr h₀ L h2 m' → News h₀ L h2 ((I, itO) :: n') → m' (Str.ofString "back") = some (.bytes (byteArr (hexIt (i - (j + 1)) f)) t2) → (∀ a, a ≠ Str.ofString "again" → a ≠ Str.ofString "back" → m' a = m a) →
        UnrEnd h₀ L { s with heap := h, toks := tk } I itO (AgainSt l n' f i (j + 1)) { s with heap := h2, toks := tk2 } := by
      intro m' h2 tk2 t2 F2 N2 hb2 ha2
      refine ⟨h2, tk2, m', n', rfl, F2, N2, fun p hp => Nat.ne_of_lt (hI p hp), rfl, ⟨t2, hb2⟩, fun p hp => ?_⟩
      rw [ha2 _ (hl p hp).1 (hl p hp).2]
      exact hm' p hp
    revert hg hz hb' fin
    generalize hexIt (i - (j + 1)) f = g
    intro hg hz hb' fin
    have F' := fr_on F' hb'
    clear hl hm' hI e1
    revert fin
    delta PR
    have W' := W
    obtain ⟨X, T⟩ := W'
    have X' := X
    revert X'
    k_fill
    intro _
    w_top on
    conv at hsc => rhs; whnf
    subst hsc
    intro fin
    try k_fold
    k_steps
    (with_reducible rename Fr _ _ _ _ => kF); (with_reducible rename News _ _ _ _ => kN)
    exact fin kF kN rfl (fun a h1 h2 => by simp only [if_neg h1, if_neg h2])
end
end Mine
end
section
open PySem PySem.W PyProof.Rows PySem.Calls
set_option maxRecDepth 100000
set_option maxHeartbeats 8000000
namespace Mine
section
variable {w : World} {mean : ExcName → Option Value} {mg mb : Str → Option Value} {s : Shared} {E : Value → Shared → Prop} {Q : Flow → Shared → Prop}
local macro_rules | `(tactic| walk_at "call type:bytes") => `(tactic| (k_here; (with_reducible rename Fr _ _ _ _ => kF); (with_reducible rename News _ _ _ _ => kN); first
  | (refine call_bytes_ints (by is_list) (by assumption) (by assumption) (size40 (by assumption) (by assumption)) rfl ?_; intro h' t' k' gr'; (have F' := Fr.keptAll kF gr'); (have N' := News.grown kN gr'); k_sweep)
  | fail "no bytes"))
local macro_rules | `(tactic| walk_at "call ref") => `(tactic| (k_here; (with_reducible show wpAny _ _ (call (Value.ref 115) _) _ _ _); (with_reducible rename Fr _ _ _ _ => kF); (with_reducible rename News _ _ _ _ => kN); refine liftC (n := 400) (Nat.le_refl _) (b16encode_call (Ground0.keeps (by assumption) (Fr.keep kF)) (by assumption) (Nat.le_trans (by assumption) (by decide : 40 ≤ 400)) ?_); intro h' k' t' gr'; (have F' := Fr.keptAll kF gr'); (have N' := News.grown kN gr'); k_sweep))
local macro_rules | `(tactic| walk_at "CompRest") => `(tactic| (with_unfolding_all first
  | (refine LCg.CompRest.succ ?_; intro v' I' oI' C' oC' D' m' h' tk' E' hv' hC' hx' F' N' off' ne'; (first | lcg_open hv' | (obtain ⟨t9', hv9'⟩ := hv'; subst hv9')))
  | refine LCg.CompRest.zero ?_))
local macro_rules | `(tactic| lcg_off) => `(tactic| assumption)
local macro_rules | `(tactic| walk_at "FinE") => `(tactic| ((unfold LCg.FinE); intro D' h' tk' F' N' o1'; (try simp only [List.nil_append, List.cons_append] at N'); (try dsimp only)))
local macro_rules | `(tactic| walk_at "FinA") => `(tactic| ((unfold LCg.FinA); intro D' h' tk' F' N' o1'; (try simp only [List.nil_append, List.cons_append] at N'); (try dsimp only)))
local macro_rules | `(tactic| walk_at "call builtin:bytes.decode") => `(tactic| (k_here; refine decode_hex (by assumption) (by assumption) ?_; intro t' k'))
local macro_rules | `(tactic| walk_at "call ref") => `(tactic| (k_here; (with_reducible show wpAny _ _ (call (Value.ref 151) _) _ _ _); (with_reducible rename Fr _ _ _ _ => kF); (with_reducible rename News _ _ _ _ => kN); refine told_rows (by assumption) kF kN rfl (by assumption) (by assumption) (by assumption) (by assumption) ?ga ?gb; (case' ga => (intro hOk' h' k' a' n' t1' t2' F' N'; k_sweep)); (case' gb => (intro hNo' h' k' t' F' N'; k_sweep))))
local macro_rules | `(tactic| walk_at "call ref") => `(tactic| (k_here; (with_reducible show wpAny _ _ (call (Value.ref 144) _) _ _ _); (with_reducible rename Fr _ _ _ _ => kF); (with_reducible rename News _ _ _ _ => kN); refine due_rows (by assumption) kF kN (by k_mem) (by k_mem) (by k_mem) (by assumption) (by assumption) (by assumption) (by assumption) ?ga ?gb; (case' ga => first | (intro hA'; exact absurd hA' (by assumption)) | (intro hA' h' k' a' n' t1' t2' F' N'; k_sweep)); (try (case' gb => first | (intro hN'; exact absurd (by assumption) hN') | (intro hN' h' k' t' F' N'; k_sweep)))))
local macro_rules | `(tactic| walk_at "binaryOp Add str str") => `(tactic| (k_here; first
  | (refine add_dot (by assumption) ?_; intro t' k')
  | (refine add_rest (by assumption) (by assumption) ?_; intro t' k')))
local macro_rules | `(tactic| walk_at "call type:type") => `(tactic| (k_here; first
  | ((with_reducible show wpAny _ _ (call (Value.type "type") [Value.bytes _ _]) _ _ _); refine type_bytes ?_)
  | ((with_reducible show wpAny _ _ (call (Value.type "type") [Value.int _ _]) _ _ _); refine type_int ?_)
  | ((with_reducible show wpAny _ _ (call (Value.type "type") [Value.str _ _]) _ _ _); refine type_str ?_)))
local macro_rules | `(tactic| walk_at "execs cons Assign cons") => `(tactic| ((with_reducible show wpAny _ _ (execs (Stmt.Assign _ (Expr.ListComp (Expr.ListComp _ _ _ _) _ _ _) _ :: _) _) _ _ _); refine stop_in ?_))
local macro_rules | `(tactic| walk_at "pyIter ref") => `(tactic| (k_here; (with_reducible show wpAny _ _ (pyIter (Value.ref _)) (fun it s₂ => LoopAtV _ _ _ _ _ (Str.ofString "again") _ _ _ it s₂) _ _); refine stop_in ?_))
local macro_rules | `(tactic| walk_at "compareOp NotEq ref str") => `(tactic| (k_here; refine ne_tuple_str (by assumption) (by k_mem) ?_))
local macro_rules | `(tactic| walk_at "compareOp") => `(tactic| (k_here; (with_reducible show wpAny _ _ (compareOp CmpOp.NotEq (Value.ref _) (Value.str _ _)) _ _ _); refine ne_tuple_str (by assumption) (by k_mem) ?_))
local macro_rules | `(tactic| walk_at "binaryOp Mod str int") => `(tactic| (k_here; refine percent_d (num_bounds (by assumption) (by assumption) (by assumption)).1 (num_bounds (by assumption) (by assumption) (by assumption)).2 ?_; intro t' k'))
local macro_rules | `(tactic| walk_at "call builtin:len") => `(tactic| (k_here; (with_reducible show wpAny _ _ (call (Value.builtin "len") [Value.str _ _]) _ _ _); refine len_fig (by assumption) (by assumption) (by assumption) ?_; intro t' k'))
local macro_rules | `(tactic| walk_at "binaryOp Mult str int") => `(tactic| (k_here; refine mul_pad (by assumption) (by assumption) (by assumption) ?_; intro t' k'))
local macro_rules | `(tactic| walk_at "binaryOp Add str str") => `(tactic| (k_here; first
  | (refine add_dot (by assumption) ?_; intro t' k')
  | (refine add_rest (by assumption) (by assumption) ?_; intro t' k')
  | (refine add_pad (by assumption) (by assumption) (by assumption) ?_; intro t' k')))
local macro_rules | `(tactic| walk_at "call ref") => `(tactic| (k_here; (with_reducible show wpAny _ _ (call (Value.ref 123) [Value.str _ _]) _ _ _); (with_reducible rename Fr _ _ _ _ => kF); (with_reducible rename News _ _ _ _ => kN); refine liftC (n := 410) (Nat.le_of_ble_eq_true rfl) (b16d_str (Ground0.keeps (by assumption) (Fr.keep kF)) (by assumption) (Nat.le_trans (by assumption) (by decide : 40 ≤ 400)) (hexText_bytes _) (hexText_low (by assumption)) ?_); intro h' k' t' gr'; (have F' := Fr.keptAll kF gr'); (have N' := News.grown kN gr'); k_sweep))
theorem turn_step {h₀ : Heap} {L fa I : Addr} {cd : Value} {f0 f1 : List Int} {i : Nat} {m : Str → Option Value} {news : List (Addr × Obj)} {t : Tok} {h : Heap} {tk : Nat} {itO : Obj} (W : Ground0 w mean mg mb h₀) (o0 : Oct f0) (o1 : Oct f1) (hi : i < 3) (hit : itO.cls = .type "range_iterator")
    {sc : Scope} (hsc : sc = lawScope) (J : TurnSt f0 f1 i m news) (F : Fr h₀ L h (fun y => if y = Str.ofString "turn" then some (.int (i : Int) t) else m y)) (N : News h₀ L h ((I, itO) :: news)) :
    wpAny (model PR w) (callerA.deeper (envOf (Str.ofString "law") sc L fa cd)) (execs turnBody (envOf (Str.ofString "law") sc L fa cd)) (UnrPost h₀ L { s with heap := h, toks := tk } I itO (TurnSt f0 f1 (i + 1)) Q) (fun _ _ => False) { s with heap := h, toks := tk } := by
  delta PR
  have W' := W
  obtain ⟨X, T⟩ := W'
  have X' := X
  revert X'
  k_fill
  intro _
  w_top on
  conv in turnBody => whnf
  conv at hsc => rhs; whnf
  subst hsc
  obtain ⟨rows, first, r0, r1, q0, q1, n0, n1, n2, n3, n4, n5, vs0, vs1, us0, us1, hr, hf, rfl, i0, i1, j0, j1⟩ := J
  have F := fr_as3 F hr hf
  have hb0 := hexIt_in o0 i
  have hb1 := hexIt_in o1 i
  have hl0 := hexIt_le o0 hi
  have hl1 := hexIt_le o1 hi
  have hc0 := o0.1
  have hc1 := o1.1
  have hd0 : f0.length ≤ 40 := Nat.le_trans o0.2 (by decide)
  have hd1 : f1.length ≤ 40 := Nat.le_trans o1.2 (by decide)
  revert i0 i1 hb0 hb1 hl0 hl1
  generalize e0 : hexIt i f0 = g0
  generalize e1 : hexIt i f1 = g1
  intro i0 i1 hb0 hb1 hl0 hl1
  try k_fold
  k_steps
  · (with_reducible rename Fr _ _ _ _ => kF); (with_reducible rename News _ _ _ _ => kN)
    refine due_rows (r0 := r0) (r1 := r1) (vs0 := vs0) (vs1 := vs1) W kF kN (by k_mem) (by k_mem) (by k_mem) (by assumption) (by assumption) (by assumption) (by assumption) ?ga ?gb
    (case' ga => first | (intro hA'; exact absurd hA' (by assumption)) | (intro hA' h' k' a' n' t1' t2' F' N'; k_sweep))
    (case' gb => first | (intro hN'; exact absurd (by assumption) hN') | (intro hN' h' k' t' F' N'; k_sweep))
    k_steps
    refine stop_on ?_
    (with_reducible rename Fr _ _ _ _ => kF); (with_reducible rename News _ _ _ _ => kN)
    exact tail_step W hit e0.symm e1.symm hb0 hb1 hl0 hl1 (by assumption) (by assumption) j0 j1 rfl kF rfl rfl rfl (fun p hp => kN p (SubL.mem (by k_subL) p hp))
  · (with_reducible rename Fr _ _ _ _ => kF); (with_reducible rename News _ _ _ _ => kN)
    refine due_rows (r0 := r0) (r1 := r1) (vs0 := vs0) (vs1 := vs1) W kF kN (by k_mem) (by k_mem) (by k_mem) (by assumption) (by assumption) (by assumption) (by assumption) ?gc ?gd
    (case' gc => (intro hA' h' k' a' n' t1' t2' F' N'; k_sweep))
    (case' gd => (intro hN'; exact absurd (by assumption) hN'))
    have ok0 : okRow g0 := hA'.1
    have ok1 : okRow g1 := hA'.2
    have nb0 := num_bounds hb0 hl0 ok0
    have nb1 := num_bounds hb1 hl1 ok1
    k_steps
    refine stop_on ?_
    (with_reducible rename Fr _ _ _ _ => kF); (with_reducible rename News _ _ _ _ => kN)
    refine again_loop (f := f0) (i := i) [(Str.ofString "turn", _), (Str.ofString "rows", _), (Str.ofString "first", _), (Str.ofString "told", _), (Str.ofString "k", _), (Str.ofString "writings", _)] rfl W hi o0
      ⟨⟨by dsimp only; decide, by dsimp only; decide⟩, ⟨by dsimp only; decide, by dsimp only; decide⟩, ⟨by dsimp only; decide, by dsimp only; decide⟩, ⟨by dsimp only; decide, by dsimp only; decide⟩, ⟨by dsimp only; decide, by dsimp only; decide⟩, ⟨by dsimp only; decide, by dsimp only; decide⟩, trivial⟩
      (by assumption) rfl kF kN (by rw [e0]; rfl) ⟨rfl, rfl, rfl, rfl, rfl, rfl, trivial⟩ ?_
    intro m9 h9 tk9 tb9 F9 N9 hb9 hm9
    have F9 := fr_lay (l := (Str.ofString "back", _) :: _) F9 ⟨hb9, hm9⟩
    simp only [lay] at F9
    clear hb9 hm9 kF kN
    k_steps
    · (rename ((_ != _) = true) => q9)
      simp at q9
    · refine stop_on ?_
      (with_reducible rename Fr _ _ _ _ => kF); (with_reducible rename News _ _ _ _ => kN)
      refine again_loop (f := f1) (i := i) [(Str.ofString "turn", _), (Str.ofString "rows", _), (Str.ofString "first", _), (Str.ofString "told", _), (Str.ofString "k", _), (Str.ofString "writings", _)] rfl W hi o1
        ⟨⟨by dsimp only; decide, by dsimp only; decide⟩, ⟨by dsimp only; decide, by dsimp only; decide⟩, ⟨by dsimp only; decide, by dsimp only; decide⟩, ⟨by dsimp only; decide, by dsimp only; decide⟩, ⟨by dsimp only; decide, by dsimp only; decide⟩, ⟨by dsimp only; decide, by dsimp only; decide⟩, trivial⟩
        (by assumption) rfl kF kN (by rw [e1]; rfl) ⟨rfl, rfl, rfl, rfl, rfl, rfl, trivial⟩ ?_
      intro m8 h8 tk8 tb8 F8 N8 hb8 hm8
      have F8 := fr_lay (l := (Str.ofString "back", _) :: _) F8 ⟨hb8, hm8⟩
      simp only [lay] at F8
      clear hb8 hm8 kF kN
      k_steps
      · (rename ((_ != _) = true) => q9)
        simp at q9
      · refine stop_on ?_
        (with_reducible rename Fr _ _ _ _ => kF); (with_reducible rename News _ _ _ _ => kN)
        exact tail_step W hit e0.symm e1.symm hb0 hb1 hl0 hl1 (by assumption) (by assumption) j0 j1 rfl kF rfl rfl rfl (fun p hp => kN p (SubL.mem (by k_subL) p hp))
end
end Mine
end
section
open PySem PySem.W PyProof.Rows PySem.Calls
set_option maxRecDepth 100000
set_option maxHeartbeats 8000000
namespace Mine
section
variable {w : World} {mean : ExcName → Option Value} {mg mb : Str → Option Value} {s : Shared} {E : Value → Shared → Prop} {Q : Flow → Shared → Prop}
theorem law_loop {h₀ : Heap} {L fa r : Addr} {cd : Value} {f0 f1 : List Int} {m₀ : Str → Option Value} {news : List (Addr × Obj)} {t₀ u₀ v₀ : Tok} {sc : Scope} {body : List Stmt} (W : Ground0 w mean mg mb h₀) (o0 : Oct f0) (o1 : Oct f1) (hsc : sc = lawScope) (hbody : body = turnBody)
    (hr : IsRange s.heap r 0 3 1 t₀ u₀ v₀) (F : Fr h₀ L s.heap m₀) (N : News h₀ L s.heap news) (J : TurnSt f0 f1 0 m₀ news)
    (done : ∀ m news h tk, Fr h₀ L h m → News h₀ L h news → Q .next { s with heap := h, toks := tk }) :
    wpAny (model PR w) (callerA.deeper (envOf (Str.ofString "law") sc L fa cd)) (pyIter (.ref r))
      (fun it s₂ => LoopAtV PR w (callerA.deeper (envOf (Str.ofString "law") sc L fa cd)) h₀ (envOf (Str.ofString "law") sc L fa cd) (Str.ofString "turn") body Q E it s₂) E s := by
  subst hbody
  exact iter_rangeJ (n := 3) (TurnSt f0 f1) rfl hr rfl (by decide) F N J (fun I hI i hi m news t h tk J F N => wpAny_mono (turn_step W o0 o1 hi rfl hsc J F N) (fun _ _ h => h) fun _ _ h => h.elim) (fun m news h tk _ F N => done m news h tk F N)
end
section
local macro_rules | `(tactic| walk_at "subscriptTail Name Slice ref ref") => `(tactic| (k_here; (with_reducible show wpAny _ _ (subscriptTail _ (PySem.Expr.Slice _ _ (some _) _) (Value.ref _) (Value.ref _)) _ _ _); k_dflt (refine' slice3_ints ?F ?N ?l ?p ?q ?k ?o ?i ?_ ?s ?t ?z; (case F => k_asm); (case N => k_asm); (case l => kmk_list); (case p => kmk_part); (case q => kmk_part); (case k => kmk_part); (case o => decide); (case i => l_ints); (case s => with_unfolding_all rfl); (case t => kmk_pure); (case z => kmk_size)); intro D' ws' ms' h' F' N' l1 hI' hL'; (try k_lt l1); (try k_sweep)))
local macro_rules | `(tactic| walk_at "exec If") => `(tactic| (k_here; (with_reducible show wpAny _ (Around.deeper callerA _) _ _ _ _); refine stop_in ?_))
local macro_rules | `(tactic| walk_at "pyIter ref") => `(tactic| (k_here; (with_reducible show wpAny _ _ (pyIter (Value.ref _)) (fun it s₂ => LoopAtV _ _ _ _ _ (Str.ofString "turn") _ _ _ it s₂) _ _); refine stop_in ?_))
theorem law_holds : PySem.Challenge.rw_pa0001_01.Holds := hd (by
  w_strict (k_go0; (all_goals try k_fold); (rename (hd.heap_39 _).In _ => KX); (rename Top _ _ _ _ _ _ => T); (have W : Ground0 _ _ _ _ _ := ⟨KX, T⟩); k_steps)
  refine stop_on ?_
  (rename IntsAre _ (List.take 10 _) => hI10)
  (rename ((List.take 10 _).length = min 10 _) => hC10)
  (rename Fr _ _ _ _ => F1)
  (rename News _ _ _ _ => N1)
  refine cutIf F1 rfl hI10 ?h1 (fun s' hj => ?h2)
  case h1 =>
    refine wpAny_If ?_
    k_steps
    · (rename Fr _ _ _ _ => F9)
      (rename News _ _ _ _ => N9)
      exact LawSt.intro F9 N9 rfl rfl (by k_mem) (by k_mem) (by k_mem) (by k_mem) (by assumption) (by assumption) hI10 (oct_map (by assumption) hC10) (oct_map (by assumption) hC10)
    · (rename Fr _ _ _ _ => F9)
      (rename News _ _ _ _ => N9)
      exact LawSt.intro F9 N9 rfl rfl (by k_mem) (by k_mem) (by k_mem) (by k_mem) (by assumption) (by assumption) hI10 (oct_map (by assumption) hC10) (oct_map (by assumption) hC10)
  case h2 =>
    obtain ⟨h, tk, m, rows, r0, r1, n0, n1, n2, n3, vs0, vs1, ws, ns0, ns1, rfl, F', hr, hd, N', i0, i1, i2, o0, o1⟩ := hj
    have F' := fr_as2 F' hr hd
    clear F1 N1
    dsimp only
    k_steps
    refine stop_on ?_
    (rename Fr _ _ _ _ => F1)
    (rename News _ _ _ _ => N1)
    refine cutIf F1 rfl hI10 ?h1 (fun s' hj => ?h2)
    case h1 =>
      refine wpAny_If ?_
      k_steps
      · (rename Fr _ _ _ _ => F9)
        (rename News _ _ _ _ => N9)
        exact LawSt.intro (vs0 := [_, _]) (vs1 := [_, _]) F9 N9 rfl rfl (by k_mem) (by k_mem) (by k_mem) (by k_mem) (.cons _ _ (.cons _ _ .nil)) (.cons _ _ (.cons _ _ .nil)) (by assumption) (⟨by decide, by decide⟩ : Oct [9, 80]) (⟨by decide, by decide⟩ : Oct [7, 171])
      · (rename Fr _ _ _ _ => F9)
        (rename News _ _ _ _ => N9)
        exact LawSt.intro (rows := rows) (r0 := r0) (r1 := r1) (vs0 := vs0) (vs1 := vs1) F9 N9 rfl rfl (by k_mem) (by k_mem) (by k_mem) (by k_mem) i0 i1 i2 o0 o1
    case h2 =>
      obtain ⟨h, tk, m, rows, r0, r1, n0, n1, n2, n3, vs0, vs1, ws, ns0, ns1, rfl, F', hr, hd, N', i0, i1, i2, o0, o1⟩ := hj
      have F' := fr_as2 F' hr hd
      clear F1 N1
      dsimp only
      k_steps
      refine stop_on ?_
      (with_reducible rename Fr _ _ _ _ => kF); (with_reducible rename News _ _ _ _ => kN)
      have N6 : News _ _ _ [(rows, PySem.W.listOf #[.ref r0, .ref r1] n0), (r0, PySem.W.listOf (List.toArray vs0) n1), (r1, PySem.W.listOf (List.toArray vs1) n2), (rows, PySem.W.listOf #[.ref r0, .ref r1] n0), (r0, PySem.W.listOf (List.toArray vs0) n1), (r1, PySem.W.listOf (List.toArray vs1) n2)] := fun p hp => kN p (SubL.mem (by k_subL) p hp)
      refine law_loop W o0 o1 rfl rfl (by assumption) kF N6 (TurnSt.start rfl rfl i0 i1) ?_
      intro m' news' h' tk' F' N'
      k_steps)
end
end Mine
end
theorem PySem.Challenge.cw_pa0001_01_holds : PySem.Challenge.rw_pa0001_01.Holds := by
  exact Mine.law_holds
