import PyProof.Rows.All
import Wide.All
import OpenK.AllK
import Wide.FinOn
import PySem.Challenge.RW_il0009_01
open PySem PySem.W PyProof.Rows
set_option Elab.async false
set_option maxRecDepth 100000
namespace Mine
def seedS : PySem.Str := PySem.Str.ofString "a"
theorem seedE : seedS = seedS := rfl
name_quick tw6733733256287894996 for Mine.seedS by Mine.seedE
name_quick tw8075568018651887793 for Mine.seedS by Mine.seedE
name_quick tw6725379264226472416 for Mine.seedS by Mine.seedE
name_quick tw15323750460276998075 for Mine.seedS by Mine.seedE
name_quick tw15158043598476960053 for Mine.seedS by Mine.seedE
name_quick tw14979626087600564940 for Mine.seedS by Mine.seedE
name_quick tw15156459632440246869 for Mine.seedS by Mine.seedE
name_quick tw1719230996375869582 for Mine.seedS by Mine.seedE
name_quick tw8401167489291999205 for Mine.seedS by Mine.seedE
name_quick tw10073347824450446311 for Mine.seedS by Mine.seedE
name_quick tw6242409422312979302 for Mine.seedS by Mine.seedE
name_quick tw16687058600856472310 for Mine.seedS by Mine.seedE
name_quick tw3739230766472764640 for Mine.seedS by Mine.seedE
name_quick tw9029142643779711378 for Mine.seedS by Mine.seedE
name_quick tw6004533443673955352 for Mine.seedS by Mine.seedE
name_quick tw12290603225136948437 for Mine.seedS by Mine.seedE
name_quick tw14433975572909055671 for Mine.seedS by Mine.seedE
name_quick tw10706342367453228570 for Mine.seedS by Mine.seedE
name_quick tw17954471519018878134 for Mine.seedS by Mine.seedE
name_quick tw3131671291697673992 for Mine.seedS by Mine.seedE
name_quick tw8703263022893421829 for Mine.seedS by Mine.seedE
name_quick tw17000155066101142889 for Mine.seedS by Mine.seedE
name_quick tw282004115355043989 for Mine.seedS by Mine.seedE
name_quick tw13900631225919944168 for Mine.seedS by Mine.seedE
name_quick tw6648295256997805279 for Mine.seedS by Mine.seedE
name_quick tw13236226663087606529 for Mine.seedS by Mine.seedE
name_quick tw15742981410569661332 for Mine.seedS by Mine.seedE
name_quick tw15278061642289888581 for Mine.seedS by Mine.seedE
name_quick tw17476080006546285661 for Mine.seedS by Mine.seedE
name_quick tw392140993173905013 for Mine.seedS by Mine.seedE
name_quick tw4978915544186085027 for Mine.seedS by Mine.seedE
name_quick tw5706481520468235054 for Mine.seedS by Mine.seedE
name_quick tw460243522976405022 for Mine.seedS by Mine.seedE
name_quick tw12945451867199242903 for Mine.seedS by Mine.seedE
name_quick tw17497748084772794779 for Mine.seedS by Mine.seedE
name_quick tw6679490504615227074 for Mine.seedS by Mine.seedE
name_quick tw16145008321745377990 for Mine.seedS by Mine.seedE
name_quick tw1218959903707654005 for Mine.seedS by Mine.seedE
name_quick tw5770868932273138760 for Mine.seedS by Mine.seedE
name_quick tw11994158751524154303 for Mine.seedS by Mine.seedE
name_quick tw9564595351457756722 for Mine.seedS by Mine.seedE
name_quick tw4090926877573551719 for Mine.seedS by Mine.seedE
name_quick tw13016732220969518872 for Mine.seedS by Mine.seedE
name_quick tw14311459727803291754 for Mine.seedS by Mine.seedE
name_quick tw16548257151911338427 for Mine.seedS by Mine.seedE
name_quick tw8727135674562949291 for Mine.seedS by Mine.seedE
name_quick tw14553827428707814869 for Mine.seedS by Mine.seedE
name_quick tw4549333791460862111 for Mine.seedS by Mine.seedE
name_quick tw5396446701170858492 for Mine.seedS by Mine.seedE
name_quick tw5189142188285759775 for Mine.seedS by Mine.seedE
name_quick tw11445135464325071761 for Mine.seedS by Mine.seedE
name_quick tw5111356299099525756 for Mine.seedS by Mine.seedE
name_quick tw7232422423428716515 for Mine.seedS by Mine.seedE
name_quick tw15490439104401381959 for Mine.seedS by Mine.seedE
name_quick tw2478078296215019888 for Mine.seedS by Mine.seedE
name_quick tw9862997608875712007 for Mine.seedS by Mine.seedE
name_quick tw14108194823987119177 for Mine.seedS by Mine.seedE
name_quick tw667198328695590252 for Mine.seedS by Mine.seedE
name_quick tw2862820112641550484 for Mine.seedS by Mine.seedE
name_quick tw15663404670287596823 for Mine.seedS by Mine.seedE
name_quick tw8537084889766193716 for Mine.seedS by Mine.seedE
name_quick tw12329403913580668285 for Mine.seedS by Mine.seedE
name_quick tw9908251947323293946 for Mine.seedS by Mine.seedE
name_quick tw8400853705098224536 for Mine.seedS by Mine.seedE
name_quick tw5902227825499142635 for Mine.seedS by Mine.seedE
name_quick tw3778451253796500701 for Mine.seedS by Mine.seedE
name_quick tw12635813782599140982 for Mine.seedS by Mine.seedE
name_quick tw15475462885187679331 for Mine.seedS by Mine.seedE
name_quick tw17672482021469178181 for Mine.seedS by Mine.seedE
name_quick tw10887116778572429059 for Mine.seedS by Mine.seedE
name_quick tw2354135333415324597 for Mine.seedS by Mine.seedE
name_quick tw11161088081135249708 for Mine.seedS by Mine.seedE
name_quick tw14530364306720264245 for Mine.seedS by Mine.seedE
name_quick tw1258717718454355964 for Mine.seedS by Mine.seedE
name_quick tw4292500188555128830 for Mine.seedS by Mine.seedE
name_quick tw9594665118957945026 for Mine.seedS by Mine.seedE
name_quick tw13912434898499826684 for Mine.seedS by Mine.seedE
name_quick tw10942035263794033107 for Mine.seedS by Mine.seedE
name_quick tw12172078356533094185 for Mine.seedS by Mine.seedE
set_option compiler.extract_closed false
section
set_option maxHeartbeats 8000000
open_top hd for PySem.Challenge.rw_il0009_01
end
theorem walkOff : True := by
  w_top off
  trivial
section
open PySem PySem.W PySem.Calls PyProof.Rows PySem.Builtin
set_option maxRecDepth 100000

/-! ## loops of pure turns in the tree monad -/
theorem forIn_steps {β : Type} (f : Nat → β → Sem (ForInStep β)) (st : Nat → β) : ∀ (n k : Nat), (∀ i, k ≤ i → i < k + n → f i (st i) = pure (.yield (st (i + 1)))) →
    forIn (List.range' k n) (st k) f = pure (st (k + n))
  | 0, k, _ => by simp
  | n + 1, k, h => by
    rw [List.range'_succ, List.forIn_cons, h k (Nat.le_refl _) (by omega), pure_bind]
    dsimp only
    rw [forIn_steps f st n (k + 1) fun i h1 h2 => h i (by omega) (by omega)]
    congr 2; omega

theorem findIdx_none {x : Array Nat} {p : Nat → Bool} (h : ∀ c ∈ x, p c = false) : x.findIdx? p = none := by
  rw [Array.findIdx?_eq_none_iff]; exact h
theorem foldl_bytes (l : List Nat) (o : Array UInt8) : List.foldl (fun acc y => acc ++ [Nat.toUInt8 y].toArray) o l = o ++ (l.map Nat.toUInt8).toArray := by
  induction l generalizing o with
  | nil => simp
  | cons a l ih => rw [List.foldl_cons, ih]; simp [← Array.toList_inj]

theorem two_turns {β γ : Type} {F : Nat → β → Sem (ForInStep β)} {a b : β} {g : β → Sem γ} {r : Sem γ} (n : Nat) (h0 : F 0 a = pure (.yield b)) (h1 : F 1 b = pure (.done b)) (hg : g b = r) : (forIn (List.range' 0 (n + 1)) a F >>= g) = r := by
  rw [List.range'_succ, List.forIn_cons, h0, pure_bind]
  cases n with
  | zero => simp [hg]
  | succ n => simp [List.range'_succ, List.forIn_cons, h1, hg]
theorem enc_ascii (id : String) (x : PySem.Str) (self : Value) (hx : ∀ c ∈ x.cps, c < 128) (hn : x.cps.size ≤ 16777216) :
    _codecs.encodeNarrow id _codecs.asciiCodec none self x = pure (x.cps.map Nat.toUInt8) := by
  have hbad : ∀ c ∈ x.cps, _codecs.asciiCodec.bad c = false := fun c hc => decide_eq_false (Nat.not_le_of_lt (hx c hc))
  unfold _codecs.encodeNarrow
  simp only [Std.Legacy.Range.forIn_eq_forIn_range']
  have hlen : ([:x.length] : Std.Legacy.Range).size = x.cps.size := by simp [Std.Legacy.Range.size, PySem.Str.length]
  rw [hlen]
  by_cases hz : x.cps.size = 0
  · have : x.cps = #[] := Array.size_eq_zero_iff.mp hz
    rw [hz, List.range'_zero, List.forIn_nil, pure_bind, this]
    simp
  · obtain ⟨n, hs⟩ := Nat.exists_eq_succ_of_ne_zero hz
    have h0 : x.cps[0]? = some (x.cps[0]'(by omega)) := Array.getElem?_eq_getElem (by omega)
    have hb0 : _codecs.asciiCodec.bad (x.cps[0]'(by omega)) = false := hbad _ (Array.getElem_mem _)
    have hf : (x.cps.findIdx? _codecs.asciiCodec.bad) = none := findIdx_none hbad
    have hsz0 : ((#[] : Array UInt8).size > sizeLine) = False := by simp [sizeLine_eq]
    have e1 : x.cps.extract 0 x.cps.size = x.cps := by simp
    have hfold : Array.foldl (fun acc y => acc ++ (_codecs.asciiCodec.bytesOf y).toArray) #[] x.cps = x.cps.map Nat.toUInt8 := by
      rw [← Array.foldl_toList]
      have := foldl_bytes x.cps.toList #[]
      simp [← Array.toList_inj, _codecs.asciiCodec, this]
    have hsz1 : ((x.cps.map Nat.toUInt8).size > sizeLine) = False := by rw [Array.size_map, sizeLine_eq]; simp; omega
    have h1 : x.cps[x.cps.size]? = none := by simp
    rw [show List.range' 0 x.cps.size = List.range' 0 (n + 1) by rw [hs]]
    refine two_turns n (b := (x.cps.size, x.cps.map Nat.toUInt8, {})) ?_ ?_ rfl
    · simp only [hsz0, if_false, h0, hb0, Bool.not_false, if_true, e1, hf, Option.getD_none, hfold, pure_bind, Nat.zero_add]
    · simp only [hsz1, if_false, h1, pure_bind]

theorem dec_ascii (id : String) (b : Array UInt8) (hx : ∀ c ∈ b, c.toNat < 128) (hn : b.size ≤ 16777216) :
    _codecs.runDecoder id _codecs.asciiDecoder none true b 0 [] = pure (b.map UInt8.toNat, b.size) := by
  unfold _codecs.runDecoder
  simp only [Std.Legacy.Range.forIn_eq_forIn_range']
  have hlen : ([:b.size] : Std.Legacy.Range).size = b.size := by simp [Std.Legacy.Range.size]
  rw [hlen]
  have key : ∀ i, i < b.size → b.getD i 0 = b[i]! := fun i hi => by simp [hi]
  let st : Nat → Nat × Array Nat × _codecs.Faults := fun i => (i, (b.map UInt8.toNat).extract 0 i, { held := [] })
  have e0 : ((0, #[], { held := [] }) : Nat × Array Nat × _codecs.Faults) = st 0 := by simp [st]
  rw [e0, forIn_steps _ st b.size 0 ?_]
  · have : (b.map UInt8.toNat).extract 0 (0 + b.size) = b.map UInt8.toNat := by
      rw [← Array.toList_inj]
      simp only [Nat.zero_add, Array.toList_extract, Array.toList_map, List.extract_eq_take_drop, List.drop_zero, Nat.sub_zero]
      exact List.take_of_length_le (by simp)
    rw [Nat.zero_add] at this
    simp only [st, Nat.zero_add, pure_bind, this]
  · intro i _ hi
    have hi' : i < b.size := by omega
    have h1 : ((((b.map UInt8.toNat).extract 0 i).size > sizeLine)) = False := by simp [sizeLine_eq]; omega
    have h2 : (i ≥ b.size) = False := by simp; omega
    have hc : (b.getD i 0).toNat < 128 := by
      rw [Array.getD_eq_getD_getElem?, Array.getElem?_eq_getElem hi', Option.getD_some]
      exact hx _ (Array.getElem_mem _)
    have h3 : _codecs.asciiDecoder.find true b i = .text [(b.getD i 0).toNat] (i + 1) := by
      show (if (b.getD i 0).toNat < 128 then _codecs.Found.char _ _ else _) = _
      rw [if_pos hc]; rfl
    simp only [st, h1, h2, if_false, h3]
    have : (b.map UInt8.toNat).extract 0 i ++ [(b.getD i 0).toNat].toArray = (b.map UInt8.toNat).extract 0 (i + 1) := by
      rw [← Array.toList_inj]
      simp [List.take_add_one, hi']
    rw [this]

/-! ## the built-ins of bytes and of texts that the text calls -/
namespace BF
theorem slot_bytes_translate : Slot "bytes" "translate" "bytes.translate" :=
  .of (owner := "bytes") (n := "translate") (by rw [typeLookup_type, builtinLookup_eq_fast]; kernel_rfl) (by decide +kernel) (by decide +kernel) (by decide +kernel)
    (by first | exact .inl (by decide +kernel) | exact .inr (by decide +kernel)) (by rw [isSubtype_type]; kernel_rfl)
theorem type_bytes_translate : typeOf (.builtin "bytes.translate") = pure (.type "method_descriptor") := by show builtinType _ = _; rw [builtinType_eq_fast]; kernel_rfl
theorem entry_bytes_translate : entryFor table "bytes.translate" = some Builtin.«bytes.translate» := entryFor_of_tree (by kernel_rfl)
theorem args_bytes_translate_2 (a b : Value) : argsOk "bytes.translate" ⟨[a, b], []⟩ := by
  unfold argsOk; rw [signature?_of (id := "bytes.translate") (n := ['e', 't', 'a', 'l', 's', 'n', 'a', 'r', 't']) (o := ['s', 'e', 't', 'y', 'b']) (by kernel_rfl) FB.owner_bytes]; kernel_rfl
theorem args_bytes_decode_2 (a b : Value) : argsOk "bytes.decode" ⟨[a, b], []⟩ := by
  unfold argsOk; rw [signature?_of (id := "bytes.decode") (n := ['e', 'd', 'o', 'c', 'e', 'd']) (o := ['s', 'e', 't', 'y', 'b']) (by kernel_rfl) FB.owner_bytes]; kernel_rfl
theorem entry_bytes_maketrans : entryFor table "bytes.maketrans" = some Builtin.«bytes.maketrans» := entryFor_of_tree (by kernel_rfl)
theorem plain_bytes_maketrans : plainId "bytes.maketrans" = true := by decide +kernel
theorem check_bytes_maketrans (a b : Value) : checkBuiltinCall "bytes.maketrans" ⟨[a, b], []⟩ = pure () := by first | kernel_rfl | rfl
end BF

section
variable {prog : Program} {w : World} {M : Model} {A : Around} {E : Value → Shared → Prop} {s : Shared}
theorem getm_translate {b : Array UInt8} {t : Tok} {pl : Sem Bool} {Q : Value × List Value → Shared → Prop} (h : Q (.builtin "bytes.translate", [.bytes b t]) s) : wpAny M A (getMethod (.bytes b t) (PySem.Str.ofString "translate") pl) Q E s := by
  with_reducible exact KBd.method_of (.bytes b t) (typeIs_bytes _ _ _) BF.slot_bytes_translate BF.type_bytes_translate KBd.noRef h
theorem getm_encode {x : PySem.Str} {t : Tok} {pl : Sem Bool} {Q : Value × List Value → Shared → Prop} (h : Q (.builtin "str.encode", [.str x t]) s) : wpAny M A (getMethod (.str x t) (PySem.Str.ofString "encode") pl) Q E s :=
  getMethod_builtin (typeIs_str _ _ _) F.plainAttrs_str F.slot_str_encode F.type_str_encode (fun _ e => nomatch e) h

theorem run_encode {x : PySem.Str} {t u : Tok} {P : Fin → Shared → Prop} (hx : ∀ c ∈ x.cps, c < 128) (hn : x.cps.size ≤ 16777216)
    (h : ∀ t' k, P (.done (.ret (.bytes (x.cps.map Nat.toUInt8) t'))) { s with toks := k }) :
    wpAny M A («str.encode» ⟨[.str x t, .str (PySem.Str.ofString "ascii") u], []⟩) P E s := by
  have e : «str.encode» ⟨[.str x t, .str (PySem.Str.ofString "ascii") u], []⟩ = (_codecs.encodeRoad "str.encode" (.str x t) x (PySem.Str.ofString "ascii") none >>= fun v => ret v) := by kernel_rfl
  have e2 : _codecs.encodeRoad "str.encode" (.str x t) x (PySem.Str.ofString "ascii") none = (_codecs.encodeNarrow "str.encode" _codecs.asciiCodec none (.str x t) x >>= fun b => mkBytes b) := by kernel_rfl
  rw [e, e2, enc_ascii _ _ _ hx hn, pure_bind]
  exact wpAny_bind (wpAny_mkBytes (wpAny_pure (h _ _)) (by rw [Array.size_map, sizeLine_eq]; exact hn))
theorem call_encode {x : PySem.Str} {t u : Tok} {Q : Value → Shared → Prop} (hx : ∀ c ∈ x.cps, c < 128) (hn : x.cps.size ≤ 16777216)
    (h : ∀ t' k, Q (.bytes (x.cps.map Nat.toUInt8) t') { s with toks := k }) : wpAny (model prog w) A (call (.builtin "str.encode") [.str x t, .str (PySem.Str.ofString "ascii") u]) Q E s :=
  wpAny_call_entry F.slot_str_encode (typeIs_str _ _ _) F.entry_str_encode (run_encode hx hn fun t' k => ⟨_, rfl, h t' k⟩) (F.args_str_encode_2 _ _)

theorem road_dec {id : String} {b : Array UInt8} : _codecs.decodeRoad id b (PySem.Str.ofString "ascii") none [] = (_codecs.runDecoder id _codecs.asciiDecoder none true b 0 [] >>= fun r => mkStr ⟨r.1⟩) := by kernel_rfl
theorem meets_dtext {b : Array UInt8} {t t1 t2 : Tok} {d : PySem.Str} (hx : ∀ c ∈ b, c.toNat < 128) (hn : b.size ≤ 16777216) :
    Meets («_codecs.decode.text» ⟨[.bytes b t, .str (PySem.Str.ofString "ascii") t1, .none, .str d t2], []⟩) (fun _ R s => R (.ok (.ret (.str ⟨b.map UInt8.toNat⟩ s.toks))) { s with toks := s.toks + 1 }) := by
  refine .of_wp fun prog w A R s h => ?_
  show wpAny _ _ (Bytes.bytesLike _ (.bytes b t) >>= fun r => _) _ _ s
  refine wpAny_bind (wpAny_of_eq KBd.like_eq ?_)
  refine wpAny_bind (wpAny_of_eq KBd.held_eq ?_)
  show wpAny _ _ (_codecs.decodeRoad _ b (PySem.Str.ofString "ascii") none [] >>= fun v => _) _ _ s
  rw [road_dec, dec_ascii _ _ hx hn]
  refine wpAny_bind (wpAny_bind (wpAny_pure ?_))
  exact wpAny_mkStr (wpAny_pure ⟨_, rfl, h⟩) (by show (b.map UInt8.toNat).size ≤ _; rw [Array.size_map, sizeLine_eq]; exact hn)
theorem dec_entry {b : Array UInt8} {t u : Tok} (hb : b.isEmpty = false) : «bytes.decode» ⟨[.bytes b t, .str (PySem.Str.ofString "ascii") u], []⟩ = (mkStr (PySem.Str.ofString "utf-8") >>= fun _ => mkStr (PySem.Str.ofString "ascii") >>= fun e => mkStr (PySem.Str.ofString "bytes.decode") >>= fun d =>
    call (.builtin "_codecs.decode.text") [.bytes b t, e, .none, d] >>= fun v => ret v) := by
  obtain ⟨l⟩ := b
  cases l with
  | nil => cases hb
  | cons c cs => kernel_rfl
theorem dec_entry0 {t u : Tok} : «bytes.decode» ⟨[.bytes #[] t, .str (PySem.Str.ofString "ascii") u], []⟩ = (rule "bytes.decode.empty" >>= fun _ => retStr PySem.Str.empty) := by kernel_rfl
theorem meets_dec {b : Array UInt8} {t u : Tok} (hx : ∀ c ∈ b, c.toNat < 128) (hn : b.size ≤ 16777216) :
    Meets («bytes.decode» ⟨[.bytes b t, .str (PySem.Str.ofString "ascii") u], []⟩) (fun _ R s => ∀ t' k, R (.ok (.ret (.str ⟨b.map UInt8.toNat⟩ t'))) { s with toks := k }) := by
  refine .of_wp fun prog w A R s h => ?_
  cases hb : b.isEmpty with
  | true =>
    obtain rfl : b = #[] := by simpa using hb
    rw [dec_entry0]
    refine wpAny_bind (wpAny_rule ?_)
    have e9 : (⟨(#[] : Array UInt8).map UInt8.toNat⟩ : PySem.Str) = PySem.Str.empty := by first | rfl | simp [PySem.Str.empty] | decide +kernel
    have h9 := h s.toks (s.toks + 1)
    rw [e9] at h9
    exact wpAny_bind (wpAny_mkStr (wpAny_pure ⟨_, rfl, h9⟩) (by decide))
  | false =>
    rw [dec_entry hb]
    refine wpAny_bind (wpAny_mkStr ?_ (by decide))
    refine wpAny_bind (wpAny_mkStr ?_ (by decide))
    refine wpAny_bind (wpAny_mkStr ?_ (by decide))
    exact wpAny_bind (call_function_meets KBd.kind_text KBd.plain_text KBd.entry_text (KBd.args_text _ _ _ _) (meets_dtext hx hn) (wpAny_pure ⟨_, rfl, h _ _⟩))
theorem call_decode {b : Array UInt8} {t u : Tok} {Q : Value → Shared → Prop} (hx : ∀ c ∈ b, c.toNat < 128) (hn : b.size ≤ 16777216)
    (h : ∀ t' k, Q (.str ⟨b.map UInt8.toNat⟩ t') { s with toks := k }) : wpAny (model prog w) A (call (.builtin "bytes.decode") [.bytes b t, .str (PySem.Str.ofString "ascii") u]) Q E s :=
  call_meets FB.slot_bytes_decode (typeIs_bytes _ _ _) FB.entry_bytes_decode (BF.args_bytes_decode_2 _ _) (meets_dec hx hn) h

/-- the table that maketrans makes -/
noncomputable def mkTab (f t : Array UInt8) : Array UInt8 := (f.toList.zip t.toList).foldl (fun t (x : UInt8 × UInt8) => t.setIfInBounds x.1.toNat x.2) ((Array.range 256).map (·.toUInt8))
theorem mkTab_size (f t : Array UInt8) : (mkTab f t).size = 256 := by
  unfold mkTab
  generalize hl : f.toList.zip t.toList = l
  have : ∀ (l : List (UInt8 × UInt8)) (a : Array UInt8), a.size = 256 → (l.foldl (fun t (x : UInt8 × UInt8) => t.setIfInBounds x.1.toNat x.2) a).size = 256 := by
    intro l
    induction l with
    | nil => exact fun a h => h
    | cons x l ih => intro a h; exact ih _ (by simpa using h)
  exact this l _ (by simp)
theorem run_maketrans {f g : Array UInt8} {t u : Tok} {P : Fin → Shared → Prop} (hs : f.size = g.size)
    (h : ∀ t' k, P (.done (.ret (.bytes (mkTab f g) t'))) { s with toks := k }) : wpAny M A («bytes.maketrans» ⟨[.bytes f t, .bytes g u], []⟩) P E s := by
  show wpAny M A (Bytes.bytesLike "bytes.maketrans" (.bytes f t) >>= fun r => _) _ _ s
  refine wpAny_bind (wpAny_of_eq KBd.like_eq ?_)
  show wpAny M A (Bytes.bytesLike "bytes.maketrans" (.bytes g u) >>= fun r => _) _ _ s
  refine wpAny_bind (wpAny_of_eq KBd.like_eq ?_)
  have hne : (f.size != g.size) = false := by simp [hs]
  simp only [hne, Bool.false_eq_true, if_false]
  refine wpAny_bind (wpAny_mkBytes (wpAny_pure ?_) ?_)
  · exact h _ _
  · exact Nat.le_trans (Nat.le_of_eq (mkTab_size f g)) (by rw [sizeLine_eq]; decide)
theorem call_maketrans {f g : Array UInt8} {t u : Tok} {Q : Value → Shared → Prop} (hs : f.size = g.size)
    (h : ∀ t' k, Q (.bytes (mkTab f g) t') { s with toks := k }) : wpAny (model prog w) A (call (.builtin "bytes.maketrans") [.bytes f t, .bytes g u]) Q E s := by
  refine wpAny_call (codeAny_call_builtin BF.plain_bytes_maketrans BF.entry_bytes_maketrans ?_)
  rw [BF.check_bytes_maketrans]
  refine wpAny_pure ?_
  exact wpAny_mono (run_maketrans (P := fun fin s' => ∃ v, fin = .done (.ret v) ∧ Q v s') (E := E) hs fun t' k => ⟨_, rfl, h t' k⟩) (fun fin s' h' => by obtain ⟨v, rfl, hv⟩ := h'; exact hv) fun _ _ x => x
theorem run_translate {b tab : Array UInt8} {t u : Tok} {P : Fin → Shared → Prop} (hs : tab.size = 256) (hn : b.size ≤ 16777216)
    (h : ∀ t' k, P (.done (.ret (.bytes (b.map fun c => tab.getD c.toNat c) t'))) { s with toks := k }) : wpAny M A («bytes.translate» ⟨[.bytes b t, .bytes tab u], []⟩) P E s := by
  have hne : (tab.size != 256) = false := by simp [hs]
  have hnn : (Value.bytes tab u == Value.none) = false := rfl
  unfold Builtin.«bytes.translate» Bytes.translateM
  dsimp only
  simp only [List.length_cons, List.length_nil, List.any_nil, Bool.false_eq_true, if_false, Nat.zero_add, Nat.add_zero, show ¬ (1 > 2) by decide, pure_bind, hnn]
  refine wpAny_bind (wpAny_of_eq KBd.like_eq ?_)
  have hno : (([] : List Value).head? <|> Option.map (fun x : PySem.Str × Value => x.snd) ([] : List (PySem.Str × Value)).head?) = none := rfl
  simp only [hne, Bool.false_eq_true, if_false, hno]
  refine wpAny_bind (wpAny_of_eq (a := b) rfl ?_)
  have hfil : b.filter (fun x => !(#[] : Array UInt8).contains x) = b := by
    rw [Array.filter_eq_self]; intro a _; simp
  rw [hfil]
  split
  · rename_i he
    refine wpAny_bind (wpAny_rule ?_)
    refine wpAny_bind (wpAny_of_eq (a := .bytes b t) rfl ?_)
    refine wpAny_pure ?_
    have := h t s.toks
    rw [beq_iff_eq.mp he] at this
    exact this
  · exact wpAny_bind (wpAny_mkBytes (wpAny_pure (h _ _)) (by rw [Array.size_map, sizeLine_eq]; exact hn))
theorem call_translate {b tab : Array UInt8} {t u : Tok} {Q : Value → Shared → Prop} (hs : tab.size = 256) (hn : b.size ≤ 16777216)
    (h : ∀ t' k, Q (.bytes (b.map fun c => tab.getD c.toNat c) t') { s with toks := k }) : wpAny (model prog w) A (call (.builtin "bytes.translate") [.bytes b t, .bytes tab u]) Q E s :=
  wpAny_call_entry BF.slot_bytes_translate (typeIs_bytes _ _ _) BF.entry_bytes_translate (run_translate hs hn fun t' k => ⟨_, rfl, h t' k⟩) (BF.args_bytes_translate_2 _ _)

theorem getm_maketrans {K : Frag} {h₀ : Heap} {L : Addr} {m : PySem.Str → Option Value} {pl : Sem Bool} {Q : Value × List Value → Shared → Prop} (F : Fr h₀ L s.heap m) (X₀ : K.In h₀)
    (e : findCls K (.type "bytes") (.type "type") (PySem.Str.ofString "maketrans") = some (.val (.builtin "bytes.maketrans")))
    (h : Q (.builtin "bytes.maketrans", []) { s with toks := s.toks + 1 }) :
    wpAny (model prog w) A (getMethod (.type "bytes") (PySem.Str.ofString "maketrans") pl) Q E s := by
  have X := X₀.keeps F.keep
  have hstub : opaqueClassAbove (.type "bytes") = pure none := by unfold opaqueClassAbove; dsimp only; rw [show Manifest.isStub "bytes" = false by decide +kernel]; rfl
  have ht : typeOf (.type "bytes") = pure (.type "type") := by first | rfl | kernel_rfl
  have L0 : Looks (model prog w) s.heap (typeOf (.type "bytes")) (.type "type") := Looks.of_pure ht
  have hg : findIn K (.type "type") "__getattribute__" = some (some (.builtin "type.__getattribute__")) := type_tga
  unfold getMethod specialOf
  refine wpAny_bind (wpAny_bind (L0.here ((looks_findIn X hg).here ?_)))
  dsimp only
  rw [if_pos canon_tga]
  refine wpAny_bind (wpAny_mono (Q := fun v => Q (v, [])) (E := E) ?_ (fun _ _ z => wpAny_pure z) fun _ _ z => z)
  have LO : Looks (model prog w) s.heap (opaqueClassAbove (.type "bytes")) none := Looks.of_pure hstub
  refine cls_open X LO L0 hg (looks_hook X (r := none) (by rfl)) (by show subIn K _ _ = _; rfl) e ?_
  exact wpAny_pure (handed_on rfl h)
end
end
section
open PySem PySem.W PySem.Calls PyProof.Rows PySem.Builtin
set_option maxRecDepth 100000
noncomputable abbrev KpB (d : Addr) (h h' : Heap) : Prop := ∀ b o, b ≠ d → h.get? b = some o → h'.get? b = some o
/-- what a display's value is -/
inductive VD | int (i : Int) | str (x : PySem.Str) | nil | one (i : Int)
noncomputable def VD.Is (lo : Nat) : VD → Value → Heap → Prop
  | .int i, v, _ => ∃ t, v = .int i t
  | .str x, v, _ => ∃ t, v = .str x (t + 1)
  | .nil, v, h => ∃ q, v = .ref q ∧ lo ≤ q ∧ h.get? q = some { cls := .type "list", data := .seq #[] }
  | .one i, v, h => ∃ q t, v = .ref q ∧ lo ≤ q ∧ h.get? q = some { cls := .type "list", data := .seq #[.int i t] }
inductive IsVD : Expr → VD → Prop
  | int {i u p} : IsVD (.Constant (.int i) u p) (.int i)
  | str {x u p} : IsVD (.Constant (.str x) u p) (.str x)
  | nil {p} : IsVD (.List [] p) .nil
  | one {i u p q} : IsVD (.List [.Constant (.int i) u p] q) (.one i)
inductive KDs : List (Option Expr) → List Expr → List (PySem.Str × VD) → Prop
  | nil : KDs [] [] []
  | cons {x u1 u2 v c ks vs r} : IsVD v c → KDs ks vs r → KDs (some (.Constant (.str x) u1 u2) :: ks) (v :: vs) ((x, c) :: r)
theorem KDs.inv {k : Option Expr} {ks : List (Option Expr)} {vs : List Expr} {ds : List (PySem.Str × VD)} (h : KDs (k :: ks) vs ds) : ∃ x u1 u2 v c vs' r, k = some (.Constant (.str x) u1 u2) ∧ vs = v :: vs' ∧ ds = (x, c) :: r ∧ IsVD v c ∧ KDs ks vs' r := by
  cases h with
  | cons hc hr => exact ⟨_, _, _, _, _, _, _, rfl, rfl, rfl, hc, hr⟩
theorem KDs.inv0 {vs : List Expr} {ds : List (PySem.Str × VD)} (h : KDs [] vs ds) : vs = [] ∧ ds = [] := by
  cases h; exact ⟨rfl, rfl⟩
inductive Fits (lo : Nat) (h : Heap) : List (PySem.Str × VD) → List (PySem.Str × Value) → Prop
  | nil : Fits lo h [] []
  | cons {k d v r r'} : d.Is lo v h → Fits lo h r r' → Fits lo h ((k, d) :: r) ((k, v) :: r')
section
variable {prog : Program} {w : World} {A : Around} {E : Value → Shared → Prop} {s : Shared} {env : Env} {lo lo' : Nat} {h h' : Heap} {d : Addr}
theorem VD.Is.keep {c : VD} {v : Value} (x : c.Is lo v h) {kvs : List (PySem.Str × Value)} (hd : h.DictOf (PySem.strKind prog w) d kvs) (k : KpB d h h') : c.Is lo v h' := by
  obtain ⟨o, es, ep, ho, hc, hdd, _⟩ := hd
  cases c with
  | int i => exact x
  | str i => exact x
  | nil =>
    obtain ⟨q, e, l, g⟩ := x
    refine ⟨q, e, l, k q _ (fun e => ?_) g⟩
    subst e; rw [ho] at g; obtain rfl := Option.some.inj g; cases hdd
  | one i =>
    obtain ⟨q, t, e, l, g⟩ := x
    refine ⟨q, t, e, l, k q _ (fun e => ?_) g⟩
    subst e; rw [ho] at g; obtain rfl := Option.some.inj g; cases hdd
theorem VD.Is.le {c : VD} {v : Value} (x : c.Is lo v h) (hl : lo' ≤ lo) : c.Is lo' v h := by
  cases c with
  | int i => exact x
  | str i => exact x
  | nil => obtain ⟨q, e, l, g⟩ := x; exact ⟨q, e, Nat.le_trans hl l, g⟩
  | one i => obtain ⟨q, t, e, l, g⟩ := x; exact ⟨q, t, e, Nat.le_trans hl l, g⟩
theorem Fits.keep {l : List (PySem.Str × VD)} {r : List (PySem.Str × Value)} (x : Fits lo h l r) {kvs : List (PySem.Str × Value)} (hd : h.DictOf (PySem.strKind prog w) d kvs) (k : KpB d h h') : Fits lo h' l r := by
  induction x with
  | nil => exact .nil
  | cons a _ ih => exact .cons (a.keep hd k) ih
theorem Fits.keys {l : List (PySem.Str × VD)} {r : List (PySem.Str × Value)} (x : Fits lo h l r) : r.map (·.1) = l.map (·.1) := by
  induction x with
  | nil => rfl
  | cons a _ ih => simp [ih]
theorem Fits.len {l : List (PySem.Str × VD)} {r : List (PySem.Str × Value)} (x : Fits lo h l r) : r.length = l.length := by
  have := congrArg List.length x.keys; simpa using this
theorem Fits.snoc {l : List (PySem.Str × VD)} {r : List (PySem.Str × Value)} (x : Fits lo h l r) {k : PySem.Str} {c : VD} {v : Value} (y : c.Is lo v h) : Fits lo h (l ++ [(k, c)]) (r ++ [(k, v)]) := by
  induction x with
  | nil => exact .cons y .nil
  | cons a _ ih => exact .cons a ih
theorem Fits.at {l : List (PySem.Str × VD)} {r : List (PySem.Str × Value)} (x : Fits lo h l r) : ∀ k c, l.find? (fun p => decide (p.1 = k)) = some (k, c) → ∃ v, valueAt r k = some v ∧ c.Is lo v h := by
  induction x with
  | nil => intro k c e; cases e
  | @cons k' c' v' r r' a _ ih =>
    intro k c e
    rw [List.find?_cons] at e
    by_cases q : k' = k
    · simp only [q, decide_true] at e
      cases e
      exact ⟨v', by simp [valueAt, q], a⟩
    · simp only [q, decide_false] at e
      obtain ⟨v, h1, h2⟩ := ih k c e
      refine ⟨v, ?_, h2⟩
      simp only [valueAt, List.find?_cons] at h1 ⊢
      rw [show decide (k' = k) = false from decide_eq_false q]
      exact h1
theorem vd_eval {e : Expr} {c : VD} (hv : IsVD e c) (hp : 0 < s.toks) {Q : Value → Shared → Prop}
    (k : ∀ v h' tk', (∀ b o, s.heap.get? b = some o → h'.get? b = some o) → s.heap.objs.size ≤ h'.objs.size → c.Is s.heap.objs.size v h' → Q v { s with heap := h', toks := tk' }) : wpAny (model prog w) A (eval e env) Q E s := by
  cases hv with
  | int => exact wpAny_Constant_int (k _ s.heap _ (fun _ _ e => e) (Nat.le_refl _) ⟨_, rfl⟩)
  | str => exact wpAny_Constant_str (k _ s.heap _ (fun _ _ e => e) (Nat.le_refl _) ⟨s.toks - 1, by rw [Nat.sub_add_cancel hp]⟩)
  | nil =>
    refine wpAny_List (wpAny_items_nil ⟨Nat.zero_le _, ?_⟩)
    exact k _ _ s.toks (fun b o e => Heap.get?_push_of_some _ e) (by simp [Heap.push]) ⟨_, rfl, Nat.le_refl _, Heap.get?_push_size _ rfl⟩
  | one =>
    refine wpAny_List (wpAny_items_cons (wpAny_Constant_int (wpAny_items_nil ⟨?_, ?_⟩)))
    · rw [sizeLine_eq]; simp
    · exact k _ _ (s.toks + 1) (fun b o e => Heap.get?_push_of_some _ e) (by simp [Heap.push]) ⟨_, s.toks, rfl, Nat.le_refl _, Heap.get?_push_size _ rfl⟩
theorem long_steps {f : Sem Value × Sem Value → PUnit → Sem (ForInStep PUnit)} (hf : ∀ p u, f p u = (do let kv ← p.1; let vv ← holding [kv] p.2; holding [kv, vv] (dictSet d kv vv); pure (.yield PUnit.unit))) (pos : Pos) :
    ∀ (ks : List (Option Expr)) (vs : List Expr) (ds acc : List (PySem.Str × VD)) (kvs : List (PySem.Str × Value)) (s : Shared) (Q : PUnit → Shared → Prop), KDs ks vs ds → Fits lo s.heap acc kvs → s.heap.DictOf (PySem.strKind prog w) d kvs →
      ((acc ++ ds).map (·.1)).Nodup → lo ≤ s.heap.objs.size → acc.length + ds.length ≤ sizeLine →
      (∀ kvs' h' tk', Fits lo h' (acc ++ ds) kvs' → h'.DictOf (PySem.strKind prog w) d kvs' → KpB d s.heap h' → s.heap.objs.size ≤ h'.objs.size → Q PUnit.unit { s with heap := h', toks := tk' }) →
      wpAny (model prog w) A (forIn (pairTrees ks vs env pos) PUnit.unit f) Q E s := by
  intro ks
  induction ks with
  | nil =>
    intro vs ds acc kvs s Q he hF hD hN hl hz hQ
    obtain ⟨rfl, rfl⟩ := he.inv0
    unfold pairTrees
    rw [List.forIn_nil]
    exact wpAny_pure (hQ kvs s.heap s.toks (by simpa using hF) hD (fun _ _ _ e => e) (Nat.le_refl _))
  | cons k ks ih =>
    intro vs ds acc kvs s Q he hF hD hN hl hz hQ
    obtain ⟨x, u1, u2, v, c, vs, r, rfl, rfl, rfl, hc, hr⟩ := he.inv
    unfold pairTrees
    rw [List.forIn_cons, hf]
    refine wpAny_bind (wpAny_bind (wpAny_Constant_str (k := u1) (pos := u2) (env := env) (wpAny_bind (wpAny_holding (wpAny_bind (vd_eval hc (Nat.succ_pos _) fun vv h1 tk1 k1 z1 i1 => ?_))))))
    refine wpAny_bind (wpAny_standAt (wpAny_pure ?_))
    have hD1 : h1.DictOf (PySem.strKind prog w) d kvs := by
      obtain ⟨o, es, ep, ho, rest⟩ := hD
      exact ⟨o, es, ep, k1 _ _ ho, rest⟩
    have hnew : ¬ (kvs.any fun kv => decide (kv.1 = x)) = true := by
      rw [List.any_eq_true]; rintro ⟨kv, hkv, e⟩
      rw [List.map_append, List.nodup_append] at hN
      have m1 : kv.1 ∈ acc.map (·.1) := hF.keys ▸ List.mem_map.mpr ⟨kv, hkv, rfl⟩
      exact hN.2.2 kv.1 m1 x (List.mem_map.mpr ⟨(x, c), .head _, rfl⟩) (of_decide_eq_true e)
    refine wpAny_bind (wpAny_holding (wpAny_dictSet_pairs (s := { s with heap := h1, toks := tk1 }) (hsz := by have := hF.len; rw [List.length_cons] at hz; omega) (strKind_is prog w x s.toks) hD1 fun h2 hD2 hs2 => wpAny_pure ?_))
    rw [stored, if_neg hnew] at hD2
    have F1 : Fits lo h1 acc kvs := hF.keep hD fun b o _ e => k1 b o e
    have F2 : Fits lo h2 (acc ++ [(x, c)]) (kvs ++ [(x, vv)]) := (F1.snoc (i1.le hl)).keep hD1 hs2.extBut
    have z2 : h2.objs.size = h1.objs.size := hs2.1
    refine ih vs r (acc ++ [(x, c)]) (kvs ++ [(x, vv)]) _ Q hr F2 hD2 (by simpa using hN) (by dsimp only; dsimp only at z1; omega) (by simp at hz ⊢; omega) fun kvs' h' tk' a b c' z => ?_
    exact hQ kvs' h' tk' (by simpa using a) b (fun b o hb e => c' b o hb (hs2.extBut b o hb (k1 b o e))) (by dsimp only at z z1; omega)

theorem pairTrees_append : ∀ (ks ks' : List (Option Expr)) (vs vs' : List Expr) (pos : Pos), ks.all (·.isSome) = true → ks.length = vs.length → pairTrees (ks ++ ks') (vs ++ vs') env pos = pairTrees ks vs env pos ++ pairTrees ks' vs' env pos := by
  intro ks
  induction ks with
  | nil => intro ks' vs vs' pos _ hl; cases vs with
    | nil => rfl
    | cons _ _ => cases hl
  | cons k ks ih => intro ks' vs vs' pos ha hl; cases vs with
    | nil => cases hl
    | cons v vs =>
      cases k with
      | none => simp at ha
      | some k =>
        simp only [List.cons_append, pairTrees]
        rw [ih ks' vs vs' pos (by simpa using ha) (by simpa using hl)]
theorem sub_long {ks : List (Option Expr)} {vs : List Expr} {pos : Pos} {ds : List (PySem.Str × VD)} {Q : Addr → Shared → Prop} (hlen : 15 < (pairTrees ks vs env pos).length) (he : KDs ks vs ds) (hn : (ds.map (·.1)).Nodup) (hz : ds.length ≤ sizeLine)
    (k : ∀ kvs h' tk', Fits s.heap.objs.size h' ds kvs → h'.DictOf (PySem.strKind prog w) s.heap.objs.size kvs → (∀ b o, s.heap.get? b = some o → h'.get? b = some o) → s.heap.objs.size < h'.objs.size → Q s.heap.objs.size { s with heap := h', toks := tk' }) :
    wpAny (model prog w) A (subDict (pairTrees ks vs env pos)) Q E s := by
  unfold subDict
  refine wpAny_bind (wpAny_alloc ?_)
  refine wpAny_bind (wpAny_holding ?_)
  rw [if_neg (by omega)]
  refine wpAny_bind (wpAny_rule ?_)
  refine wpAny_bind ?_
  refine long_steps (lo := s.heap.objs.size) (prog := prog) (w := w) (d := s.heap.objs.size) (fun p u => rfl) pos ks vs ds [] [] _ _ he .nil (Heap.DictOf.new s.heap) (by simpa using hn) (by simp [Heap.push]) (by simpa using hz) fun kvs' h' tk' a b c z => ?_
  refine wpAny_pure (wpAny_pure ?_)
  dsimp only at z
  have z' : s.heap.objs.size < h'.objs.size := by
    have : (s.heap.push { cls := .type "dict", data := .dict #[] }).objs.size = s.heap.objs.size + 1 := by simp [Heap.push]
    omega
  exact k kvs' h' tk' a b (fun b o e => c b o (fun q => absurd (Heap.lt_size e) (by rw [q]; exact Nat.lt_irrefl _)) (Heap.get?_push_of_some _ e)) z'
theorem sub_one {k v : Expr} {x : PySem.Str} {u1 : Nat} {u2 : Pos} {pos : Pos} {c : VD} {Q : Addr → Shared → Prop} (hk : k = .Constant (.str x) u1 u2) (hc : IsVD v c)
    (kk : ∀ vv h' tk', c.Is s.heap.objs.size vv h' → h'.DictOf (PySem.strKind prog w) s.heap.objs.size [(x, vv)] → (∀ b o, s.heap.get? b = some o → h'.get? b = some o) → s.heap.objs.size < h'.objs.size → Q s.heap.objs.size { s with heap := h', toks := tk' }) :
    wpAny (model prog w) A (subDict (pairTrees [some k] [v] env pos)) Q E s := by
  subst hk
  unfold subDict
  refine wpAny_bind (wpAny_alloc ?_)
  refine wpAny_bind (wpAny_holding ?_)
  rw [if_pos (by simp [pairTrees])]
  have z0 : (s.heap.push { cls := .type "dict", data := .dict #[] }).objs.size = s.heap.objs.size + 1 := by simp [Heap.push]
  refine wpAny_bind (pairTrees_cons_walk (wpAny_Constant_str (vd_eval hc (Nat.succ_pos _) fun vv h1 tk1 k1 z1 i1 => ?_)))
  refine pairTrees_nil_walk ?_
  refine wpAny_holding (wpAny_bind ?_)
  have hD1 : h1.DictOf (PySem.strKind prog w) s.heap.objs.size [] := by
    obtain ⟨o, es, ep, ho, rest⟩ := Heap.DictOf.new (knd := PySem.strKind prog w) s.heap
    exact ⟨o, es, ep, k1 _ _ ho, rest⟩
  rw [List.forIn_cons]
  refine wpAny_bind (wpAny_bind (wpAny_dictSet_pairs (s := { s with heap := h1, toks := tk1 }) (hsz := Nat.zero_le _) (strKind_is prog w x s.toks) hD1 fun h2 hD2 hs2 => wpAny_pure ?_))
  dsimp only
  rw [List.forIn_nil]
  refine wpAny_pure (wpAny_pure (wpAny_pure ?_))
  have z2 : h2.objs.size = h1.objs.size := hs2.1
  refine kk vv h2 _ ((i1.le (by dsimp only; omega)).keep hD1 hs2.extBut) hD2 (fun b o e => hs2.extBut b o (fun q => absurd (Heap.lt_size e) (by rw [q]; exact Nat.lt_irrefl _)) (k1 b o (Heap.get?_push_of_some _ e))) (by dsimp only at z1; omega)
theorem put_new {kvs : List (PySem.Str × Value)} {k : PySem.Str} {key v : Value} {Q : Unit → Shared → Prop} (hkey : (PySem.strKind prog w).is k key = true) (hm : s.heap.DictOf (PySem.strKind prog w) d kvs) (hnew : k ∉ kvs.map (·.1))
    (hQ : ∀ h', h'.DictOf (PySem.strKind prog w) d (kvs ++ [(k, v)]) → Heap.SameBut d s.heap h' → Q () { s with heap := h' })
    (hsz : kvs.length ≤ sizeLine) :
    wpAny (model prog w) A (dictPut d ((PySem.strKind prog w).hash k) key v) Q E s := by
  obtain ⟨o, es, ep, ho, hc, hd, hk, hp, hn⟩ := hm
  have hes : es.size ≤ sizeLine := by have e1 := hp.length; have e2 : es.toList.length = es.size := by simp
                                      omega
  unfold dictPut
  refine wpAny_bind (wpAny_dictFind_of hkey ho hd hk ?_)
  have hidx : (es.findIdx? fun e => (PySem.strKind prog w).is k e.key) = kvs.findIdx? fun kv => decide (kv.1 = k) := by
    rw [← hp.findIdx k]; obtain ⟨l⟩ := es; simp
  have hnone : (es.findIdx? fun e => (PySem.strKind prog w).is k e.key) = none := by
    rw [hidx, List.findIdx?_eq_none_iff]
    intro kv hkv
    exact decide_eq_false fun e => hnew (List.mem_map.mpr ⟨kv, hkv, e⟩)
  rw [hnone]
  refine wpAny_updateDictKeys (hz := hes) ho hd (hQ _ ⟨_, _, ep + 1, Heap.get?_update_self _ ho (Obj.isFreed_of_dict (Obj.data_mapDictKeys hd _)),
      hc.mapDictKeys _, Obj.data_mapDictKeys hd _, hk.push hkey _, ?_, ?_⟩ (Heap.SameBut.update ..))
  · have := hp.append hkey ((PySem.strKind prog w).hash k) v
    obtain ⟨l⟩ := es
    simpa using this
  · rw [List.map_append, List.nodup_append]
    refine ⟨hn, by simp, ?_⟩
    intro a ha b hb
    simp only [List.map_cons, List.map_nil, List.mem_singleton] at hb
    subst hb
    exact fun e => hnew (e ▸ ha)
theorem merge_one {q : Addr} {kvs : List (PySem.Str × Value)} {k : PySem.Str} {v : Value} {Q : Unit → Shared → Prop} (hdq : d ≠ q) (hqS : (q == sysModules) = false) (h0 : kvs ≠ []) (hd : s.heap.DictOf (PySem.strKind prog w) d kvs) (hq : s.heap.DictOf (PySem.strKind prog w) q [(k, v)]) (hnew : k ∉ kvs.map (·.1)) (hsz : kvs.length ≤ sizeLine)
    (hQ : ∀ h', h'.DictOf (PySem.strKind prog w) d (kvs ++ [(k, v)]) → Heap.SameBut d s.heap h' → Q () { s with heap := h' }) :
    wpAny (model prog w) A (mergeMapping d (.ref q) false) Q E s := by
  obtain ⟨od, esd, epd, hod, hcd, hdd, hkd, hpd, hnd⟩ := id hd
  obtain ⟨oq, esq, epq, hoq, hcq, hdq', hkq, hpq, hnq⟩ := id hq
  unfold mergeMapping
  refine wpAny_bind (wpAny_isInstance hq.typeIs isSubtype_dict_dict ?_)
  simp only [if_true]
  refine wpAny_bind (wpAny_specialOf hq.typeIs F.slot_dict_iter.lookup (wpAny_bind (wpAny_pure ?_)))
  simp only [beq_self_eq_true]
  rw [if_neg (by rw [hqS]; exact Bool.false_ne_true)]
  refine wpAny_bind (wpAny_dictEntries hod hdd ?_)
  have hne : esd.isEmpty = false := by
    cases hz : esd.isEmpty with
    | false => rfl
    | true =>
      have e1 := hpd.length
      have e2 : esd = #[] := by simpa using hz
      rw [e2] at e1
      exact absurd (List.length_eq_zero_iff.mp e1.symm) h0
  rw [hne, if_neg Bool.false_ne_true]
  have hlen : esq.size = 1 := by have := hpq.length; simpa using this
  obtain ⟨e, rfl⟩ : ∃ e, esq = #[e] := Array.size_eq_one_iff.mp hlen
  obtain ⟨hkey, hval⟩ := hpq.get? (e := e) (i := 0) (k := k) (v := v) rfl rfl
  obtain ⟨k', hkey', hhash⟩ := hkq e (by simp)
  obtain rfl : k' = k := (PySem.strKind prog w).inj _ _ _ hkey' hkey
  refine wpAny_bind (wpAny_dictEntries hoq hdq' ?_)
  refine wpAny_bind (wpAny_dictEpoch hoq hdq' ?_)
  rw [show List.range #[e].size = [0] from rfl, List.forIn_cons]
  refine wpAny_bind ?_
  refine wpAny_bind (wpAny_bind (wpAny_dictEntries hoq hdq' ?_))
  show wpAny _ _ (holding [e.key, e.val] (if false = true then _ else dictPut d e.hash e.key e.val) >>= _) _ _ _
  rw [if_neg Bool.false_ne_true, hhash, hval]
  refine wpAny_bind (wpAny_holding (put_new hkey' hd hnew (fun h' hd' hs' => ?_) hsz))
  refine wpAny_bind (wpAny_dictEpoch ((hs'.2 q (Ne.symm hdq)).trans hoq) hdq' ?_)
  rw [if_neg (by simp)]
  refine wpAny_pure ?_
  dsimp only
  rw [List.forIn_nil]
  exact wpAny_pure (wpAny_pure (hQ h' hd' hs'))

theorem gather (f : (Option (Sem Value) × Sem Value) → (Option Addr × List (Sem Value × Sem Value)) → Sem (ForInStep (Option Addr × List (Sem Value × Sem Value))))
    (hf : ∀ (p : Sem Value × Sem Value) (mn : Option Addr) (run : List (Sem Value × Sem Value)), run.length + 1 < 17 → f (some p.1, p.2) (mn, run) = pure (.yield (mn, run ++ [p]))) :
    ∀ (items run : List (Sem Value × Sem Value)) (mn : Option Addr) (rest : List (Option (Sem Value) × Sem Value)), run.length + items.length < 17 → forIn ((items.map fun p => (some p.1, p.2)) ++ rest) (mn, run) f = forIn rest (mn, run ++ items) f
  | [], run, mn, rest, _ => by simp
  | p :: items, run, mn, rest, h => by
    rw [List.map_cons, List.cons_append, List.forIn_cons, hf p mn run (by simp at h; omega), pure_bind]
    have := gather f hf items (run ++ [p]) mn rest (by simp at h ⊢; omega)
    simpa using this
theorem display18 (ps : List (Sem Value × Sem Value)) (p q : Sem Value × Sem Value) (hlen : ps.length = 16) :
    dictDisplay (((ps ++ [p]) ++ [q]).map fun p => (some p.1, p.2)) = (do
      let d ← subDict (ps ++ [p])
      let sub ← holding [.ref d] (subDict [q])
      (holding [.ref d, .ref sub] (mergeMapping d (.ref sub) false)).onRaise fun x => do let _ ← holding [.ref d, x] (runValue (.builtin "proto.let_go" {}))
      pure (.ref d)) := by
  unfold dictDisplay
  dsimp only
  rw [List.map_append, List.map_append, List.append_assoc, gather _ (fun p mn run h => by
    have hne : ((run ++ [(p.1, p.2)]).length == 17) = false := by simp; omega
    simp only [hne, Bool.false_eq_true, if_false]) ps [] none _ (by simp; omega)]
  have h17 : (((ps ++ [p]).length) == 17) = true := by simp [hlen]
  simp [hlen, List.forIn_cons]

theorem display_lits {keys : List (Option Expr)} {values : List Expr} {pos : Pos} {ds : List (PySem.Str × VD)} {x : PySem.Str} {u1 : Nat} {u2 : Pos} {v : Expr} {c : VD} {Q : Value → Shared → Prop}
    (hk : KDs (keys.take 17) (values.take 17) ds) (h1 : keys.drop 17 = [some (.Constant (.str x) u1 u2)]) (h2 : values.drop 17 = [v]) (hc : IsVD v c) (hall : keys.all (·.isSome) = true)
    (hn : ((ds ++ [(x, c)]).map (·.1)).Nodup) (hlow : sysModules < s.heap.objs.size)
    (k : ∀ kvs h' tk', Fits s.heap.objs.size h' (ds ++ [(x, c)]) kvs → h'.DictOf (PySem.strKind prog w) s.heap.objs.size kvs → (∀ b o, s.heap.get? b = some o → h'.get? b = some o) → Q (.ref s.heap.objs.size) { s with heap := h', toks := tk' }) :
    wpAny (model prog w) A (eval (.Dict keys values pos) env) Q E s := by
  have l1 : keys.length = 18 := by have := congrArg List.length h1; simp at this; omega
  have l2 : values.length = 18 := by have := congrArg List.length h2; simp at this; omega
  have e1 : pairTrees keys values env pos = pairTrees (keys.take 17) (values.take 17) env pos ++ pairTrees (keys.drop 17) (values.drop 17) env pos := by
    conv => lhs; rw [← List.take_append_drop 17 keys, ← List.take_append_drop 17 values]
    refine pairTrees_append _ _ _ _ pos ?_ (by simp [l1, l2])
    rw [List.all_eq_true] at hall ⊢
    exact fun y hy => hall y (List.mem_of_mem_take hy)
  have a1 : (keys.take 17).all (·.isSome) = true := by
    rw [List.all_eq_true] at hall ⊢
    exact fun y hy => hall y (List.mem_of_mem_take hy)
  have n1 : (pairTrees (keys.take 17) (values.take 17) env pos).length = 17 := by rw [pairTrees_length _ _ _ _ a1 (by simp [l1, l2])]; simp [l1]
  have nd : ds.length = 17 := by
    have : ∀ (ks : List (Option Expr)) (vs : List Expr) (ds : List (PySem.Str × VD)), KDs ks vs ds → ds.length = ks.length := by
      intro ks vs ds e
      induction e with
      | nil => rfl
      | cons _ _ ih => rw [List.length_cons, List.length_cons, ih]
    rw [this _ _ _ hk]; simp [l1]
  rw [arm_eval_Dict, zip_pairTrees keys values env pos hall (by rw [l1, l2]), e1, h1, h2]
  have e2 : pairTrees [some (.Constant (.str x) u1 u2)] [v] env pos = [(PySem.eval (.Constant (.str x) u1 u2) env, do let x ← PySem.eval v env; standAt pos; pure x)] := rfl
  have e3 := List.dropLast_concat_getLast (l := pairTrees (keys.take 17) (values.take 17) env pos) (by intro e; rw [e] at n1; cases n1)
  rw [e2, ← e3, display18 _ _ _ (by simp [n1]), e3, ← e2]
  refine wpAny_bind (wpAny_standAt (wpAny_bind (sub_long (prog := prog) (w := w) (by rw [n1]; decide) hk ?_ (by rw [nd, sizeLine_eq]; decide) fun kvs h3 tk3 F3 D3 K3 z3 => ?_)))
  · rw [List.map_append, List.nodup_append] at hn; exact hn.1
  refine wpAny_bind (wpAny_holding (sub_one (prog := prog) (w := w) rfl hc fun vv h4 tk4 i4 D4 K4 z4 => ?_))
  dsimp only at i4 D4 K4 z4 ⊢
  have kv := F3.keys
  have D34 : h4.DictOf (PySem.strKind prog w) s.heap.objs.size kvs := by
    obtain ⟨o, es, ep, ho, rest⟩ := D3
    exact ⟨o, es, ep, K4 _ _ ho, rest⟩
  refine wpAny_bind (wpAny_onRaise (wpAny_holding (merge_one (prog := prog) (w := w) (s := { s with heap := h4, toks := tk4 }) (Nat.ne_of_lt z3) (beq_eq_false_iff_ne.mpr (Nat.ne_of_gt (Nat.lt_trans hlow z3))) ?_ D34 D4 ?_ ?_ fun h5 D5 hs5 => ?_)))
  · intro e; have := F3.len; rw [e, nd] at this; cases this
  · rw [kv]
    intro hm
    rw [List.map_append, List.nodup_append] at hn
    exact hn.2.2 _ hm x (by simp) rfl
  · rw [F3.len, nd, sizeLine_eq]; decide
  · refine wpAny_pure (k _ h5 tk4 ?_ D5 fun b o e => hs5.extBut b o (fun q => absurd (Heap.lt_size e) (by rw [q]; exact Nat.lt_irrefl _)) (K4 _ _ (K3 _ _ e)))
    exact ((F3.keep D3 fun b o _ e => K4 b o e).snoc (i4.le (by omega))).keep D34 hs5.extBut
end
end
section
open PySem PySem.W PySem.Calls PyProof.Rows PySem.Builtin PySem.Builtin.Str
set_option maxRecDepth 100000
theorem tw_free (c : Nat) : ∀ (p : List Nat), c ∉ p → p.takeWhile (· != c) = p ∧ p.filter (· != c) = p ∧ ∀ r, (p ++ c :: r).takeWhile (· != c) = p ∧ (p ++ c :: r).filter (· != c) = p ++ r.filter (· != c)
  | [], _ => ⟨rfl, rfl, fun r => by simp⟩
  | a :: p, h => by
    have ha : (a != c) = true := by
      rw [bne_iff_ne]; rintro rfl; exact h (.head _)
    obtain ⟨h1, h2, h3⟩ := tw_free c p fun hm => h (.tail _ hm)
    refine ⟨by rw [List.takeWhile_cons, ha]; simp [h1], by rw [List.filter_cons, ha]; simp [h2], fun r => ?_⟩
    obtain ⟨h4, h5⟩ := h3 r
    exact ⟨by rw [List.cons_append, List.takeWhile_cons, ha]; simp [h4], by rw [List.cons_append, List.filter_cons, ha]; simp [h5]⟩
theorem cut_facts (c : Nat) : ∀ (r : List PySem.Str) (x : PySem.Str), (∀ p ∈ x :: r, c ∉ p.cps.toList) →
    x.cps.toList = (PySem.Str.join ⟨#[c]⟩ (x :: r)).cps.toList.takeWhile (· != c) ∧ (PySem.Str.join ⟨#[]⟩ (x :: r)).cps.toList = (PySem.Str.join ⟨#[c]⟩ (x :: r)).cps.toList.filter (· != c)
  | [], x, h => by
    obtain ⟨h1, h2, _⟩ := tw_free c x.cps.toList (h x (.head _))
    exact ⟨h1.symm, h2.symm⟩
  | y :: r, x, h => by
    obtain ⟨_, _, h3⟩ := tw_free c x.cps.toList (h x (.head _))
    obtain ⟨_, i2⟩ := cut_facts c r y fun p hp => h p (.tail _ hp)
    have e1 : (PySem.Str.join ⟨#[c]⟩ (x :: y :: r)).cps.toList = x.cps.toList ++ c :: (PySem.Str.join ⟨#[c]⟩ (y :: r)).cps.toList := by
      show ((x ++ ⟨#[c]⟩ ++ PySem.Str.join ⟨#[c]⟩ (y :: r)) : PySem.Str).cps.toList = _
      simp [Str.cps_append]
    have e2 : (PySem.Str.join ⟨#[]⟩ (x :: y :: r)).cps.toList = x.cps.toList ++ (PySem.Str.join ⟨#[]⟩ (y :: r)).cps.toList := by
      show ((x ++ ⟨#[]⟩ ++ PySem.Str.join ⟨#[]⟩ (y :: r)) : PySem.Str).cps.toList = _
      simp [Str.cps_append]
    obtain ⟨h4, h5⟩ := h3 (PySem.Str.join ⟨#[c]⟩ (y :: r)).cps.toList
    exact ⟨by rw [e1, h4], by rw [e1, e2, h5, i2]⟩
theorem split_facts (x : PySem.Str) (c : Nat) : ∃ p r, Txt.split x ⟨#[c]⟩ = p :: r ∧ Txt.join ⟨#[c]⟩ (p :: r) = x ∧ p.cps.toList = x.cps.toList.takeWhile (· != c) ∧ (Txt.join ⟨#[]⟩ (p :: r)).cps.toList = x.cps.toList.filter (· != c) := by
  have hf := StrLaws.split_free x c
  have hj : Txt.join ⟨#[c]⟩ (Txt.split x ⟨#[c]⟩) = x := by
    unfold Txt.split Txt.join
    split
    · rfl
    · split
      · rfl
      · exact StrLaws.glued_between_self x ⟨#[c]⟩ _
  cases hs : Txt.split x ⟨#[c]⟩ with
  | nil =>
    exfalso
    unfold Txt.split at hs
    split at hs
    · cases hs
    · split at hs
      · cases hs
      · have := congrArg List.length hs
        simp [partsBetween] at this
  | cons p r =>
    rw [hs] at hf hj
    have hj' : PySem.Str.join ⟨#[c]⟩ (p :: r) = x := by rw [← StrLaws.glued_eq_join]; exact hj
    obtain ⟨a, b⟩ := cut_facts c r p hf
    rw [hj'] at a b
    exact ⟨p, r, rfl, hj, a, by show (glued ⟨#[]⟩ (p :: r)).cps.toList = _; rw [StrLaws.glued_eq_join]; exact b⟩
theorem join_weight (c : Nat) : ∀ (r : List PySem.Str) (x : PySem.Str), ((x :: r).map (·.length)).sum + (x :: r).length = (PySem.Str.join ⟨#[c]⟩ (x :: r)).length + 1
  | [], x => by simp [PySem.Str.join]
  | y :: r, x => by
    have ih := join_weight c r y
    have e1 : (PySem.Str.join ⟨#[c]⟩ (x :: y :: r)).length = x.length + 1 + (PySem.Str.join ⟨#[c]⟩ (y :: r)).length := by
      show ((x ++ ⟨#[c]⟩ ++ PySem.Str.join ⟨#[c]⟩ (y :: r)) : PySem.Str).length = _
      rw [Str.length_append, Str.length_append]; rfl
    rw [e1]
    simp only [List.map_cons, List.sum_cons, List.length_cons] at ih ⊢
    omega
theorem split_weight {x : PySem.Str} {c : Nat} {p : PySem.Str} {r : List PySem.Str} (h : Txt.join ⟨#[c]⟩ (p :: r) = x) : ((p :: r).map (·.length)).sum + (p :: r).length = x.length + 1 := by
  rw [join_weight c, ← StrLaws.glued_eq_join]
  show (Txt.join ⟨#[c]⟩ (p :: r)).length + 1 = _
  rw [h]
end
section
open PySem PySem.W PySem.Calls PyProof.Rows
set_option maxRecDepth 100000
noncomputable abbrev Led := List (Addr × Obj)
noncomputable abbrev Prg : Program := RowW.prog (OpenRow.toRowW (OpenLaw.row Challenge.rw_il0009_01))
noncomputable abbrev Loo : List Str := looseW hd.view_39
      [Str.ofString "localeconv", Str.ofString "_localeconv", Str.ofString "_override_localeconv",
        Str.ofString "update_wrapper", Str.ofString "wraps", Str.ofString "_group", Str.ofString "_localize",
        Str.ofString "localize", Str.ofString "bytes_types", Str.ofString "a2b_base64", Str.ofString "b2a_base64",
        Str.ofString "b64encode", Str.ofString "b64decode"]
structure Wd where
  w : World
  mean : ExcName → Option Value
  mg : Str → Option Value
  mb : Str → Option Value
/-- all that stands in the one stands in the other -/
noncomputable abbrev Kp (h h' : Heap) : Prop := ∀ b o, h.get? b = some o → h'.get? b = some o

section
variable {prog : Program} {w : World} {A₀ A : Around} {s : Shared} {base h₀ : Heap} {outer : List Env} {L : Addr} {m : Str → Option Value} {env : Env} {K : Frag} {p : Program} {loose : List Str} {mean : ExcName → Option Value} {mg mb : Str → Option Value}
    {R : Result → Shared → Prop} {name qual : Str} {params : Arguments} {body : List Stmt} {scope : Scope} {dV kV doc pm cdv ct oc : Value} {an od : Option Addr} {osl : Array (Option Value)} {f : Addr} {args : Args}

theorem leave0 (F : Fr h₀ L s.heap m) {v : Value} {s' : Shared} (hl : LeaveK h₀ L m s.heap R v s') : R (.ok (.ret v)) s' := by
  obtain ⟨L', m', news', F', N', k⟩ := hl
  refine k (F.after F'.keep) fun p hp => ⟨(N' p hp).1, fun q => ?_, ?_⟩
  · obtain ⟨oL, _, _, hL, _⟩ := F.ns
    have := (N' p hp).2.2; rw [q, hL] at this; cases this
  · cases q : h₀.get? p.1 with
    | none => rfl
    | some o => have := (N' p hp).2.2; rw [F.keep _ _ q] at this; cases this
theorem below0 (B : Below A₀ base outer h₀) (F : Fr h₀ L s.heap m) (hA : A.frames = some (env :: outer)) (hf : env.frame = some L) (hke : env.scope.kind = .function) : Below A base (env :: outer) s.heap :=
  have B₁ := pushX B F hf hke
  ⟨hA, B₁.stays, B₁.frames⟩

/-- a def is entered, its ground the caller's heap as it lies -/
theorem code_def0 {binds : List (Str × Value)} (B : Below A₀ base outer h₀) (F : Fr h₀ L s.heap m) (X₀ : K.In h₀) (T : Top p loose mean mg mb h₀) (hA : A.frames = some (env :: outer)) (hf : env.frame = some L) (hke : env.scope.kind = .function)
    (ho : K.lookup f = some ⟨oc, od, .func (fnOf name qual params body scope dV kV doc pm an cdv ct), osl⟩) (hcd : codeIn K cdv qual = true) (hroom : A.depth < recursionLimit)
    (hbind : BindsTo s (fnOf name qual params body scope dV kV doc pm an cdv ct) args binds) (hloc : ∀ y ∈ binds, scope.names.lookup y.1 = some .local)
    (h : ∀ L' h₁, Fr s.heap L' h₁ (fun y => binds.reverse.lookup y) → News s.heap L' h₁ [] → Below A base (env :: outer) s.heap → K.In s.heap → Top p loose mean mg mb s.heap →
      wpAny (model prog w) (A.deeper (envOf qual scope L' f cdv)) (execs body (envOf qual scope L' f cdv))
        (fun fl s' => LeaveK h₀ L m s.heap R (match fl with | .ret v => v | _ => .none) s')
        (fun e s' => wpAny (model prog w) (A.deeper (envOf qual scope L' f cdv)) (leaving (envOf qual scope L' f cdv) e) (fun _ s'' => R (.error e) s'') (fun e' s'' => R (.error e') s'') s')
        { s with heap := h₁, toks := s.toks + binds.length })
    (hco : scope.isCoroutine = false) (hgen : scope.isGenerator = false) (hk : scope.kind = .function) (hcell : ∀ x ∈ scope.names, x.2 ≠ .cell) : codeAny (model prog w) A (.call (.ref f) args) R s := by
  have X := X₀.keeps F.keep
  refine codeAny_call_def (fd := fnOf name qual params body scope dV kV doc pm an cdv ct) (body := body) (binds := binds) hroom (X _ _ ho) rfl (T.nolimit.keeps F.keep) (codeRec_of X hcd) rfl hbind hcell hloc (fun h₁ hns hk₁ => ?_) hco hgen hk
  exact wpAny_mono (h s.heap.objs.size h₁ ⟨hns, hk₁, Nat.le_refl _⟩ News.nil (below0 B F hA hf hke) X (T.keeps F.keep)) (fun fl s' hl => leave0 F hl) fun _ _ y => y

/-- the same for a def whose locals are captured -/
theorem code_defC0 {binds : List (Str × Value)} (B : Below A₀ base outer h₀) (F : Fr h₀ L s.heap m) (X₀ : K.In h₀) (T : Top p loose mean mg mb h₀) (hA : A.frames = some (env :: outer)) (hf : env.frame = some L) (hke : env.scope.kind = .function)
    (ho : K.lookup f = some ⟨oc, od, .func (fnOf name qual params body scope dV kV doc pm an cdv ct), osl⟩) (hcd : codeIn K cdv qual = true) (hroom : A.depth < recursionLimit)
    (hbind : BindsTo s (fnOf name qual params body scope dV kV doc pm an cdv ct) args binds) (hkind : (binds.all fun y => scope.names.lookup y.1 == some .local || scope.names.lookup y.1 == some .cell) = true)
    (hnd : ((cellsFrom 0 scope.names []).map (·.1)).Nodup)
    (h : ∀ L' h₁ tk cells, Fr s.heap L' h₁ (bindL (envOfC qual scope L' f cdv).kindOf binds fun _ => none) → News s.heap L' h₁ cells →
      CellsAre (bindC (envOfC qual scope L' f cdv).kindOf binds fun _ => none) (cellsFrom (L' + 1) scope.names []) cells → Below A base (env :: outer) s.heap → K.In s.heap → Top p loose mean mg mb s.heap →
      wpAny (model prog w) (A.deeper (envOfC qual scope L' f cdv)) (execs body (envOfC qual scope L' f cdv))
        (fun fl s' => LeaveK h₀ L m s.heap R (match fl with | .ret v => v | _ => .none) s')
        (fun e s' => wpAny (model prog w) (A.deeper (envOfC qual scope L' f cdv)) (leaving (envOfC qual scope L' f cdv) e) (fun _ s'' => R (.error e) s'') (fun e' s'' => R (.error e') s'') s')
        { s with heap := h₁, toks := tk })
    (hco : scope.isCoroutine = false) (hgen : scope.isGenerator = false) (hk : scope.kind = .function) : codeAny (model prog w) A (.call (.ref f) args) R s := by
  have X := X₀.keeps F.keep
  refine codeAny_call_function hroom (X _ _ ho) rfl hco hgen rfl (codeRec_of X hcd) (hbind _ _ _ _ ?_)
  refine wpAny_newFunctionEnv_cells hk (kindsX hkind _) fun env' he s' x => ?_
  subst he
  refine ⟨(T.nolimit.keeps F.keep).keeps x.toInCall.keep, codeAny_func ?_⟩
  obtain ⟨h₁, tk, rfl, _⟩ := x.done
  have hk₁ := x.toInCall.keep
  obtain ⟨cells, NC, Y⟩ := Cl.news (h₀ := s.heap) (Nat.le_refl _) fun n c hm => ⟨x.cell n c (lookup_of_mem_nodup (cellsFrom_names scope.names 0 (s.heap.objs.size + 1) [] [] rfl ▸ hnd) hm), x.above n c hm⟩
  exact wpAny_mono (h s.heap.objs.size h₁ tk cells ⟨x.toInCall.ns, hk₁, Nat.le_refl _⟩ NC Y (below0 B F hA hf hke) X (T.keeps F.keep)) (fun fl s' hl => leave0 F hl) fun _ _ y => y
end

/-- a goal at which the walk is to stand still -/
noncomputable def Hold (P : Prop) : Prop := P
theorem Hold.out {P : Prop} (h : Hold P) : P := h
theorem Hold.mk {P : Prop} (h : P) : Hold P := h

/-- what a call of a def of the text's gives back: the value R (with some token), all that stood as it stood -/
noncomputable def Ct0 (W : Wd) (need : Nat) (f : Addr) (pos : List Value) (kw : List (Str × Value)) (Pre : Heap → Prop) (R : Tok → Value) : Prop :=
  ∀ (dp un : Nat) (gd : Option (List Code)) (cn : Str) (cs : Scope) (a : Addr) (ccd : Value) (cl : List (Str × Addr)) (outer : List Env) (A₀ : Around) (base h₀ : Heap) (L : Addr) (m : Str → Option Value) (s : Shared) (Q E : Value → Shared → Prop),
    Below A₀ base outer h₀ → Fr h₀ L s.heap m → (hd.heap_39 W.w.params).In h₀ → Top hd.view_39 Loo W.mean W.mg W.mb h₀ → cs.kind = .function → Pre s.heap →
    dp + need < recursionLimit → un + 8 * need < cLine →
    (∀ t h' tk', Kp s.heap h' → Q (R t) { s with heap := h', toks := tk' }) →
    wpAny (model Prg W.w) (ktrTop dp un gd cn cs L a ccd cl outer) (call (.ref f) pos kw) Q E s
/-- the same with one new object -/
noncomputable def CtN (W : Wd) (need : Nat) (f : Addr) (pos : List Value) (kw : List (Str × Value)) (Pre : Heap → Prop) (O : Obj → Prop) : Prop :=
  ∀ (dp un : Nat) (gd : Option (List Code)) (cn : Str) (cs : Scope) (a : Addr) (ccd : Value) (cl : List (Str × Addr)) (outer : List Env) (A₀ : Around) (base h₀ : Heap) (L : Addr) (m : Str → Option Value) (s : Shared) (Q E : Value → Shared → Prop),
    Below A₀ base outer h₀ → Fr h₀ L s.heap m → (hd.heap_39 W.w.params).In h₀ → Top hd.view_39 Loo W.mean W.mg W.mb h₀ → cs.kind = .function → Pre s.heap →
    dp + need < recursionLimit → un + 8 * need < cLine →
    (∀ q o h' tk', Kp s.heap h' → O o → s.heap.objs.size ≤ q → h'.get? q = some o → Q (.ref q) { s with heap := h', toks := tk' }) →
    wpAny (model Prg W.w) (ktrTop dp un gd cn cs L a ccd cl outer) (call (.ref f) pos kw) Q E s
section
variable {W : Wd} {need f : Nat} {pos : List Value} {kw : List (Str × Value)} {Pre : Heap → Prop} {R : Tok → Value} {O : Obj → Prop}
  {dp un : Nat} {gd : Option (List Code)} {cn : Str} {cs : Scope} {a : Addr} {ccd : Value} {cl : List (Str × Addr)} {outer : List Env} {A₀ : Around} {base h₀ h' : Heap} {L L1 : Addr} {m m1 : Str → Option Value} {news : Led} {s : Shared} {Q E : Value → Shared → Prop} {tk' : Nat} {v : Value}
theorem Ct0.use (C : Ct0 W need f pos kw Pre R) (B : Below A₀ base outer h₀) (F : Fr h₀ L s.heap m) (X : (hd.heap_39 W.w.params).In h₀) (N : News h₀ L s.heap news) (T : Top hd.view_39 Loo W.mean W.mg W.mb h₀) (hk : cs.kind = .function) (hp : Pre s.heap)
    (hd : dp + need < recursionLimit) (hu : un + 8 * need < cLine) (ret : ∀ t h' tk', Fr h₀ L h' m → News h₀ L h' news → Q (R t) { s with heap := h', toks := tk' }) :
    wpAny (model Prg W.w) (ktrTop dp un gd cn cs L a ccd cl outer) (call (.ref f) pos kw) Q E s :=
  C _ _ _ _ _ _ _ _ _ _ _ _ _ _ _ _ _ B F X T hk hp hd hu fun t h' tk' k => ret t h' tk' (F.after k) (N.grown k)
theorem atR {M : Model} {A : Around} (f : Addr) (h : wpAny M A (call (.ref f) pos kw) Q E s) : wpAny M A (call (.ref f) pos kw) Q E s := h
theorem CtN.use (C : CtN W need f pos kw Pre O) (B : Below A₀ base outer h₀) (F : Fr h₀ L s.heap m) (X : (hd.heap_39 W.w.params).In h₀) (N : News h₀ L s.heap news) (T : Top hd.view_39 Loo W.mean W.mg W.mb h₀) (hk : cs.kind = .function) (hp : Pre s.heap)
    (hd : dp + need < recursionLimit) (hu : un + 8 * need < cLine) (ret : ∀ q o h' tk', O o → Fr h₀ L h' m → News h₀ L h' ((q, o) :: news) → (∀ p ∈ news, p.1 < q) → Q (.ref q) { s with heap := h', toks := tk' }) :
    wpAny (model Prg W.w) (ktrTop dp un gd cn cs L a ccd cl outer) (call (.ref f) pos kw) Q E s :=
  C _ _ _ _ _ _ _ _ _ _ _ _ _ _ _ _ _ B F X T hk hp hd hu fun q o h' tk' k ho hq hg => ret q o h' tk' ho (F.after k) (fun p hp => by
    rcases List.mem_cons.mp hp with rfl | hp
    · refine ⟨hg, fun e => ?_, ?_⟩
      · obtain ⟨oL, _, _, hL, _⟩ := F.ns
        exact absurd (Heap.lt_size hL) (Nat.not_lt.mpr (show s.heap.objs.size ≤ L from (show q = L from e) ▸ hq))
      · cases z : h₀.get? q with
        | none => rfl
        | some o' => exact absurd (Heap.lt_size (F.keep _ _ z)) (Nat.not_lt.mpr hq)
    · exact N.grown k p hp) fun p hp => Nat.lt_of_lt_of_le (Heap.lt_size (N p hp).1) hq
theorem ct_ret (hret : ∀ t h' tk', Kp s.heap h' → Q (R t) { s with heap := h', toks := tk' }) (t : Tok) (e : v = R t) (F : Fr s.heap L1 h' m1) : Q v { s with heap := h', toks := tk' } := by
  subst e
  exact hret t h' tk' F.keep
theorem ct_retN (hret : ∀ q o h' tk', Kp s.heap h' → O o → s.heap.objs.size ≤ q → h'.get? q = some o → Q (.ref q) { s with heap := h', toks := tk' }) {q : Addr} {o : Obj} (ho : O o) (F : Fr s.heap L1 h' m1) (N : News s.heap L1 h' news) (hm : (q, o) ∈ news) (hq : s.heap.objs.size ≤ q) : Q (.ref q) { s with heap := h', toks := tk' } :=
  hret q o h' tk' F.keep ho hq (N.get hm)
end

section
variable {prog : Program} {w : World} {A : Around} {E : Value → Shared → Prop} {s : Shared} {env : Env} {h₀ : Heap} {x : Str} {body : List Stmt} {Q : Flow → Shared → Prop}
/-- a loop over bytes that fills one list of the call's own and turns some names -/
theorem loop_bytes {b : Array UInt8} {ks : List Int} {tb : Tok} {m₀ : Str → Option Value} {lq : Addr} {o₀ : Obj} {σ : Type} (vsOf : σ → List Value) (kOf : σ → Nat) (ps : σ → List (Str × Value)) (stored : List Str) (P : List Int → σ → Prop) (c₀ : σ)
    (hb : KBw.bInts b = ks) (hh : A.handled = none) (F : Fr h₀ env.locals s.heap m₀) (N : News h₀ env.locals s.heap [(lq, o₀)]) (ho : o₀ = PySem.W.listOf (vsOf c₀).toArray (kOf c₀)) (hk : ∀ p ∈ ps c₀, m₀ p.1 = some p.2) (hp : P [] c₀)
    (turn : ∀ (c : σ) (pre post : List Int) (n : Int) t (u : Str → Option Value) h tk own, ks = pre ++ n :: post → 0 ≤ n → n < 256 → OwnOff own [lq] → P pre c →
      Fr h₀ env.locals h (fun y => if y = x then some (.int n t) else kstB (fun z => if stored.contains z then u z else m₀ z) (ps c) y) → News h₀ env.locals h ([(lq, PySem.W.listOf (vsOf c).toArray (kOf c))] ++ own) →
      wpAny (model prog w) A (execs body env) (InvPostN h₀ env.locals (KstS (fun c => [(lq, PySem.W.listOf (vsOf c).toArray (kOf c))]) ps (fun _ => True) x stored m₀ P (pre ++ [n])) own [lq] { s with heap := h, toks := tk } Q) E { s with heap := h, toks := tk })
    (done : ∀ (c : σ) (u : Str → Option Value) h tk, P ks c → Fr h₀ env.locals h (fun y => if y = x then u y else kstB (fun z => if stored.contains z then u z else m₀ z) (ps c) y) → News h₀ env.locals h [(lq, PySem.W.listOf (vsOf c).toArray (kOf c))] → Q .next { s with heap := h, toks := tk }) :
    wpAny (model prog w) A (pyIter (.bytes b tb)) (fun it s₂ => LoopAtV prog w A h₀ env x body Q E it s₂) E s := by
  subst ho
  exact KStb.kst_bytes (fun c => [(lq, PySem.W.listOf (vsOf c).toArray (kOf c))]) ps (fun _ => True) stored P c₀ hb rfl hh F N trivial hk hp
    (fun c pre post n t u h tk own e _ h0 h1 hoff _ hP FB NB => turn c pre post n t u h tk own e h0 h1 hoff hP FB NB) (fun c u h tk _ _ hP FB NB => done c u h tk hP FB NB)
/-- its turn's end -/
theorem loop_end {σ : Type} {vsOf : σ → List Value} {kOf : σ → Nat} {ps : σ → List (Str × Value)} {stored : List Str} {m₀ m' : Str → Option Value} {P : List Int → σ → Prop} {pre : List Int} {L lq : Addr} {own news' : List (Addr × Obj)} {s₁ : Shared} {h' : Heap} {tk : Nat} (c : σ)
    (F : Fr h₀ L h' m') (N : News h₀ L h' news') (hn : (lq, PySem.W.listOf (vsOf c).toArray (kOf c)) ∈ news') (ho : ∀ p ∈ own, p ∈ news') (hk : ∀ p ∈ ps c, m' p.1 = some p.2) (hr : ∀ z, z ≠ x → (∀ p ∈ ps c, z ≠ p.1) → stored.contains z = false → m' z = m₀ z) (hp : P pre c) :
    InvEndN h₀ L (KstS (fun c => [(lq, PySem.W.listOf (vsOf c).toArray (kOf c))]) ps (fun _ => True) x stored m₀ P pre) own [lq] s₁ { s₁ with heap := h', toks := tk } :=
  kst_end c F N (by intro p hp; rw [List.mem_singleton.mp hp]; exact hn) ho rfl trivial hk hr hp
end
theorem room1 {d a b l : Nat} (h : d + b < l) (e : a ≤ b) : d + a < l := Nat.lt_of_le_of_lt (Nat.add_le_add_left e d) h
theorem room2 {d c a b l : Nat} (h : d + b < l) (e : c + a ≤ b) : d + c + a < l := Nat.add_assoc d c a ▸ room1 h e
theorem room3 {d f c a b l : Nat} (h : d + b < l) (e : f + c + a ≤ b) : d + f + c + a < l := Nat.add_assoc d f c ▸ room2 h e
theorem room0 {d b l : Nat} (h : d + b < l) : d < l := Nat.lt_of_le_of_lt (Nat.le_add_right d b) h
end
section
open PySem PySem.W PySem.Calls PyProof.Rows
set_option maxRecDepth 100000
set_option maxHeartbeats 1000000
local macro_rules | `(tactic| walk_at "MYFILL") => `(tactic| (have hfill9 : Challenge.rw_il0009_01 = Challenge.rw_il0009_01 ∧ hd.heap_39 = hd.heap_39 := by { k_fill; exact ⟨rfl, rfl⟩ }; clear hfill9))
local macro_rules | `(tactic| walk_at "call type:type") => `(tactic| ((with_reducible show wpAny _ _ (call _ [Value.bytes _ _]) _ _ _); refine call_type_of (Tx := "bytes") rfl (by decide +kernel) ?_))
local macro_rules | `(tactic| walk_at "getMethod str") => `(tactic| (k_here; (with_reducible refine getm_encode ?_)))
local macro_rules | `(tactic| walk_at "getMethod bytes") => `(tactic| (k_here; (with_reducible refine getm_translate ?_)))
local macro_rules | `(tactic| walk_at "getMethod type:bytes") => `(tactic| (k_here; k_dflt (refine' getm_maketrans ?kF ?kX ?kE ?_; (case kF => k_asm); (case kX => k_asm); (case kE => k_is); k_whole)))
local macro_rules | `(tactic| walk_at "MYSIZE") => `(tactic| first | assumption | (simp only [Array.size_map, Array.size_append, List.size_toArray, List.length_map] at *; omega) | omega)
local macro_rules | `(tactic| walk_at "call builtin:str.encode") => `(tactic| (k_here; (refine' call_encode ?k1 ?k2 ?_; (case k1 => assumption); (case k2 => walk_at "MYSIZE")); intro _ _))
local macro_rules | `(tactic| walk_at "call builtin:bytes.decode") => `(tactic| (k_here; (refine' call_decode ?k1 ?k2 ?_; (case k1 => assumption); (case k2 => walk_at "MYSIZE")); intro _ _))
local macro_rules | `(tactic| walk_at "call builtin:bytes.translate") => `(tactic| (k_here; (refine' call_translate ?k1 ?k2 ?_; (case k1 => first | assumption | exact mkTab_size _ _); (case k2 => walk_at "MYSIZE")); intro _ _))
local macro_rules | `(tactic| walk_at "call builtin:bytes.maketrans") => `(tactic| (k_here; (refine' call_maketrans ?k1 ?_; (case k1 => first | assumption | rfl | (simp; done))); intro _ _))
local macro_rules | `(tactic| walk_at "MYSAME") => `(tactic| (intro z hz hp hs; (simp only [List.mem_cons, List.not_mem_nil, or_false, forall_eq_or_imp, forall_eq] at hp); (simp only [kstB, hz, hp, hs, if_false, Bool.false_eq_true])))
local macro_rules | `(tactic| walk_at "MYROOM") => `(tactic| ((try simp only [depth_deeper, depth_in1, depth_mark]); (try dsimp only [ktrTop, Around.deeper]); walk_at "MYLT"))
local macro_rules | `(tactic| walk_at "MYUNITS") => `(tactic| ((try simp only [units_deeper, units_in1]); (try dsimp only [ktrTop, Around.deeper]); walk_at "MYLT"))
local macro_rules | `(tactic| walk_at "MYHY") => `(tactic| (first | assumption | trivial | walk_at "MYSIZE" | (simp; done)))
local macro_rules | `(tactic| walk_at "MYCTB") => `(tactic| ((case kB => k_asm); (case kF => k_asm); (case kX => k_asm); (case kN => k_asm); (case kT => k_asm); (case kK => first | exact rfl | assumption); (case kD => walk_at "MYROOM"); (case kU => walk_at "MYUNITS")))
local macro_rules | `(tactic| walk_at "MYCT0") => `(tactic| (walk_at "MYCTB"; (case kP => first | trivial | assumption | is_list)))
local macro_rules | `(tactic| walk_at "MYCTE") => `(tactic| (walk_at "MYCTB"; (case kXB => k_asm); (case kTB => k_asm); (case kDD => k_asm)))
local macro_rules | `(tactic| walk_at "MYD") => `(tactic| ((try dsimp only); (try k_fold)))
local macro_rules | `(tactic| walk_at "MYTL0") => `(tactic| (intro t9 h9 tk9 F9 N9; walk_at "MYD"))
local macro_rules | `(tactic| walk_at "MYTLS") => `(tactic| (intro R9 hs9 t9 h9 tk9 gs9 F9 N9 hG9; (have hE9 := Option.some.inj hs9); (subst hE9); walk_at "MYD"))
local macro_rules | `(tactic| walk_at "MYTLR") => `(tactic| (intro R9 hs9 t9 h9 tk9 gs9 F9 N9 hG9; (obtain ⟨o9, ho9, hE9⟩ := Option.map_eq_some_iff.mp hs9); (subst hE9); walk_at "MYD"; rotate_left))
local macro_rules | `(tactic| walk_at "MYTLE") => `(tactic| (walk_at "MYTLR"; (intro hs9 e9 h9 tk9 hR9 hU9; obtain ⟨t9, vs9, hR9⟩ := hR9); walk_at "MYD"; rotate_left))
local macro_rules | `(tactic| walk_at "MYTLC") => `(tactic| (intro g9 t9 h9 tk9 gs9 T9 F9 N9 B9 X9 P9 D9 hG9; walk_at "MYD"))
local macro_rules | `(tactic| walk_at "MYLT") => `(tactic| first | exact room1 (by assumption) (by decide) | exact room2 (by assumption) (by decide) | exact room0 (by assumption) | exact room3 (by assumption) (by decide) | omega)
local macro_rules | `(tactic| walk_at "MYH1") => `(tactic| first | (case kh0 => walk_at "MYHY") | (case kC => walk_at "MYHY"))
local macro_rules | `(tactic| walk_at "MYH2") => `(tactic| (walk_at "MYH1"; case kh1 => walk_at "MYHY"))
local macro_rules | `(tactic| walk_at "MYH3") => `(tactic| (walk_at "MYH2"; case kh2 => walk_at "MYHY"))
local macro_rules | `(tactic| walk_at "MYH4") => `(tactic| (walk_at "MYH3"; case kh3 => walk_at "MYHY"))
local macro_rules | `(tactic| walk_at "MYU0") => `(tactic| refine' Ct0.use ?kC ?kB ?kF ?kX ?kN ?kT ?kK ?kP ?kD ?kU ?_)
section
theorem ct_truth (W : Wd) (b : Bool) : Ct0 W 1 168 [.bool b] [] (fun _ => True) (fun _ => .bool b) := by
  intro dp un gd cn cs a ccd cl outer A₀ base h₀ L m s Q E B F X T hk hpre hdp hun hret
  walk_at "MYFILL"
  refine wpAny_call ?_
  k_dflt (refine' code_def0 (binds := [(Str.ofString "x", .bool b)]) ?k1 ?k2 ?k3 ?k5 ?kA ?kF ?kK ?k6 ?k7 ?k8 ?k9 ?kB ?_ ?c2 ?c3 ?c4 ?c5; (case kA => exact rfl); (case kF => exact rfl); (case kK => assumption); (case k1 => k_asm); (case k2 => k_asm); (case k3 => k_asm); (case k5 => k_asm); (case k6 => k_is); (case k7 => k_is); (case k8 => walk_at "MYROOM"); (case k9 => first | exact BindsTo.of_eq rfl | exact binds_K (X.keeps F.keep) rfl (by k_is) rfl rfl rfl | (refine' kp_binds ?kx ?ke; (case kx => exact X.keeps F.keep); (case ke => exact fun _ => rfl))); (case c5 => decide); (case kB => exact locs rfl); (case c2 => exact rfl); (case c3 => exact rfl); (case c4 => exact rfl); k_whole; intro L1 h1 F1 N1 B1 X1 T1; (try dsimp only [List.reverse_cons, List.reverse_nil, List.nil_append, List.cons_append, List.append_eq] at F1); (try dsimp only); (try k_fold))
  k_steps
  all_goals (refine ct_ret hret 0 ?_ (by assumption); simp_all)
theorem ct_buffer (W : Wd) (b : Array UInt8) (t : Tok) : Ct0 W 1 161 [.bytes b t] [] (fun _ => True) (fun _ => .bytes b t) := by
  intro dp un gd cn cs a ccd cl outer A₀ base h₀ L m s Q E B F X T hk hpre hdp hun hret
  walk_at "MYFILL"
  refine wpAny_call ?_
  k_dflt (refine' code_def0 (binds := [(Str.ofString "data", .bytes b t)]) ?k1 ?k2 ?k3 ?k5 ?kA ?kF ?kK ?k6 ?k7 ?k8 ?k9 ?kB ?_ ?c2 ?c3 ?c4 ?c5; (case kA => exact rfl); (case kF => exact rfl); (case kK => assumption); (case k1 => k_asm); (case k2 => k_asm); (case k3 => k_asm); (case k5 => k_asm); (case k6 => k_is); (case k7 => k_is); (case k8 => walk_at "MYROOM"); (case k9 => first | exact BindsTo.of_eq rfl | exact binds_K (X.keeps F.keep) rfl (by k_is) rfl rfl rfl | (refine' kp_binds ?kx ?ke; (case kx => exact X.keeps F.keep); (case ke => exact fun _ => rfl))); (case c5 => decide); (case kB => exact locs rfl); (case c2 => exact rfl); (case c3 => exact rfl); (case c4 => exact rfl); k_whole; intro L1 h1 F1 N1 B1 X1 T1; (try dsimp only [List.reverse_cons, List.reverse_nil, List.nil_append, List.cons_append, List.append_eq] at F1); (try dsimp only); (try k_fold))
  k_steps
  exact ct_ret hret 0 rfl (by assumption)
theorem ct_abuffer (W : Wd) (b : Array UInt8) (t : Tok) : Ct0 W 1 154 [.bytes b t] [] (fun _ => True) (fun _ => .bytes b t) := by
  intro dp un gd cn cs a ccd cl outer A₀ base h₀ L m s Q E B F X T hk hpre hdp hun hret
  walk_at "MYFILL"
  refine wpAny_call ?_
  k_dflt (refine' code_def0 (binds := [(Str.ofString "data", .bytes b t)]) ?k1 ?k2 ?k3 ?k5 ?kA ?kF ?kK ?k6 ?k7 ?k8 ?k9 ?kB ?_ ?c2 ?c3 ?c4 ?c5; (case kA => exact rfl); (case kF => exact rfl); (case kK => assumption); (case k1 => k_asm); (case k2 => k_asm); (case k3 => k_asm); (case k5 => k_asm); (case k6 => k_is); (case k7 => k_is); (case k8 => walk_at "MYROOM"); (case k9 => first | exact BindsTo.of_eq rfl | exact binds_K (X.keeps F.keep) rfl (by k_is) rfl rfl rfl | (refine' kp_binds ?kx ?ke; (case kx => exact X.keeps F.keep); (case ke => exact fun _ => rfl))); (case c5 => decide); (case kB => exact locs rfl); (case c2 => exact rfl); (case c3 => exact rfl); (case c4 => exact rfl); k_whole; intro L1 h1 F1 N1 B1 X1 T1; (try dsimp only [List.reverse_cons, List.reverse_nil, List.nil_append, List.cons_append, List.append_eq] at F1); (try dsimp only); (try k_fold))
  k_steps
  exact ct_ret hret 0 rfl (by assumption)
theorem ct_bfd_s (W : Wd) (x : Str) (t : Tok) (hx : ∀ c ∈ x.cps, c < 128) (hn : x.cps.size ≤ 16777216) : Ct0 W 1 134 [.str x t] [] (fun _ => True) (fun t' => .bytes (x.cps.map Nat.toUInt8) t') := by
  intro dp un gd cn cs a ccd cl outer A₀ base h₀ L m s Q E B F X T hk hpre hdp hun hret
  walk_at "MYFILL"
  refine wpAny_call ?_
  k_dflt (refine' code_def0 (binds := [(Str.ofString "s", .str x t)]) ?k1 ?k2 ?k3 ?k5 ?kA ?kF ?kK ?k6 ?k7 ?k8 ?k9 ?kB ?_ ?c2 ?c3 ?c4 ?c5; (case kA => exact rfl); (case kF => exact rfl); (case kK => assumption); (case k1 => k_asm); (case k2 => k_asm); (case k3 => k_asm); (case k5 => k_asm); (case k6 => k_is); (case k7 => k_is); (case k8 => walk_at "MYROOM"); (case k9 => first | exact BindsTo.of_eq rfl | exact binds_K (X.keeps F.keep) rfl (by k_is) rfl rfl rfl | (refine' kp_binds ?kx ?ke; (case kx => exact X.keeps F.keep); (case ke => exact fun _ => rfl))); (case c5 => decide); (case kB => exact locs rfl); (case c2 => exact rfl); (case c3 => exact rfl); (case c4 => exact rfl); k_whole; intro L1 h1 F1 N1 B1 X1 T1; (try dsimp only [List.reverse_cons, List.reverse_nil, List.nil_append, List.cons_append, List.append_eq] at F1); (try dsimp only); (try k_fold))
  k_steps
  exact ct_ret hret _ rfl (by assumption)
theorem ct_bfd_b (W : Wd) (b : Array UInt8) (t : Tok) : Ct0 W 1 134 [.bytes b t] [] (fun _ => True) (fun _ => .bytes b t) := by
  intro dp un gd cn cs a ccd cl outer A₀ base h₀ L m s Q E B F X T hk hpre hdp hun hret
  walk_at "MYFILL"
  refine wpAny_call ?_
  k_dflt (refine' code_def0 (binds := [(Str.ofString "s", .bytes b t)]) ?k1 ?k2 ?k3 ?k5 ?kA ?kF ?kK ?k6 ?k7 ?k8 ?k9 ?kB ?_ ?c2 ?c3 ?c4 ?c5; (case kA => exact rfl); (case kF => exact rfl); (case kK => assumption); (case k1 => k_asm); (case k2 => k_asm); (case k3 => k_asm); (case k5 => k_asm); (case k6 => k_is); (case k7 => k_is); (case k8 => walk_at "MYROOM"); (case k9 => first | exact BindsTo.of_eq rfl | exact binds_K (X.keeps F.keep) rfl (by k_is) rfl rfl rfl | (refine' kp_binds ?kx ?ke; (case kx => exact X.keeps F.keep); (case ke => exact fun _ => rfl))); (case c5 => decide); (case kB => exact locs rfl); (case c2 => exact rfl); (case c3 => exact rfl); (case c4 => exact rfl); k_whole; intro L1 h1 F1 N1 B1 X1 T1; (try dsimp only [List.reverse_cons, List.reverse_nil, List.nil_append, List.cons_append, List.append_eq] at F1); (try dsimp only); (try k_fold))
  k_steps
  exact ct_ret hret 0 rfl (by assumption)
noncomputable def b64v (c : Int) : Int := if 65 ≤ c ∧ c ≤ 90 then c - 65 else if 97 ≤ c ∧ c ≤ 122 then c - 71 else if 48 ≤ c ∧ c ≤ 57 then c + 4 else if c = 43 then 62 else if c = 47 then 63 else 64
theorem ct_b64v (W : Wd) (c : Int) (tc : Tok) (h0 : 0 ≤ c) (h1 : c < 256) : Ct0 W 1 175 [.int c tc] [] (fun _ => True) (fun t => .int (b64v c) t) := by
  intro dp un gd cn cs a ccd cl outer A₀ base h₀ L m s Q E B F X T hk hpre hdp hun hret
  walk_at "MYFILL"
  refine wpAny_call ?_
  k_dflt (refine' code_def0 (binds := [(Str.ofString "c", .int c tc)]) ?k1 ?k2 ?k3 ?k5 ?kA ?kF ?kK ?k6 ?k7 ?k8 ?k9 ?kB ?_ ?c2 ?c3 ?c4 ?c5; (case kA => exact rfl); (case kF => exact rfl); (case kK => assumption); (case k1 => k_asm); (case k2 => k_asm); (case k3 => k_asm); (case k5 => k_asm); (case k6 => k_is); (case k7 => k_is); (case k8 => walk_at "MYROOM"); (case k9 => first | exact BindsTo.of_eq rfl | exact binds_K (X.keeps F.keep) rfl (by k_is) rfl rfl rfl | (refine' kp_binds ?kx ?ke; (case kx => exact X.keeps F.keep); (case ke => exact fun _ => rfl))); (case c5 => decide); (case kB => exact locs rfl); (case c2 => exact rfl); (case c3 => exact rfl); (case c4 => exact rfl); k_whole; intro L1 h1 F1 N1 B1 X1 T1; (try dsimp only [List.reverse_cons, List.reverse_nil, List.nil_append, List.cons_append, List.append_eq] at F1); (try dsimp only); (try k_fold))
  k_steps
  all_goals (refine ct_ret hret _ (congrArg (fun i => Value.int i _) ?_) (by assumption); unfold b64v; (repeat' split) <;> omega)
end
local macro_rules | `(tactic| walk_at "call ref") => `(tactic| ((with_reducible refine atR 168 ?_); k_dflt (walk_at "MYU0"; (case' kC => refine' ct_truth _ _); walk_at "MYCT0"); walk_at "MYTL0"))
local macro_rules | `(tactic| walk_at "call ref") => `(tactic| ((with_reducible refine atR 161 ?_); k_dflt (walk_at "MYU0"; (case' kC => refine' ct_buffer _ _ _); walk_at "MYCT0"); walk_at "MYTL0"))
local macro_rules | `(tactic| walk_at "call ref") => `(tactic| ((with_reducible refine atR 154 ?_); k_dflt (walk_at "MYU0"; (case' kC => refine' ct_abuffer _ _ _); walk_at "MYCT0"); walk_at "MYTL0"))
local macro_rules | `(tactic| walk_at "call ref") => `(tactic| ((with_reducible refine atR 134 ?_); k_dflt (walk_at "MYU0"; (case' kC => refine' ct_bfd_s _ _ _ ?kh0 ?kh1); walk_at "MYCT0"; walk_at "MYH2"); walk_at "MYTL0"))
local macro_rules | `(tactic| walk_at "call ref") => `(tactic| ((with_reducible refine atR 134 ?_); k_dflt (walk_at "MYU0"; (case' kC => refine' ct_bfd_b _ _ _); walk_at "MYCT0"); walk_at "MYTL0"))
local macro_rules | `(tactic| walk_at "call ref") => `(tactic| ((with_reducible refine atR 175 ?_); k_dflt (walk_at "MYU0"; (case' kC => refine' ct_b64v _ _ _ ?kh0 ?kh1); walk_at "MYCT0"; walk_at "MYH2"); walk_at "MYTL0"))
section

noncomputable def AL : List Nat := [65,66,67,68,69,70,71,72,73,74,75,76,77,78,79,80,81,82,83,84,85,86,87,88,89,90,97,98,99,100,101,102,103,104,105,106,107,108,109,110,111,112,113,114,115,116,117,118,119,120,121,122,48,49,50,51,52,53,54,55,56,57,43,47]
noncomputable def alI (i : Int) : Int := ((AL.getD i.toNat 0 : Nat) : Int)
theorem alI_range (i : Int) : 0 ≤ alI i ∧ alI i < 128 := by
  unfold alI
  refine ⟨Int.natCast_nonneg _, ?_⟩
  have : ∀ n : Nat, AL.getD n 0 < 128 := by
    intro n
    rw [List.getD_eq_getElem?_getD]
    cases h : AL[n]? with
    | none => decide
    | some x => exact (by decide : ∀ y ∈ AL, y < 128) x (List.mem_of_getElem? h)
  exact_mod_cast this _
structure StB where
  vs : List Value
  k : Nat
  lb : Int
  lc : Int
  t1 : Tok
  t2 : Tok
structure B2 where
  out : List Int
  lb : Int
  lc : Int
noncomputable def b2aStep (a : B2) (n : Int) : B2 :=
  let lc := (a.lc * 256 + n) % 65536
  if a.lb = 0 then ⟨a.out ++ [alI (lc / 4 % 64)], 2, lc⟩
  else if a.lb = 2 then ⟨a.out ++ [alI (lc / 16 % 64)], 4, lc⟩
  else ⟨a.out ++ [alI (lc / 64 % 64), alI (lc % 64)], 0, lc⟩
noncomputable def b2aRun (l : List Int) : B2 := l.foldl b2aStep ⟨[], 0, 0⟩
theorem b2aRun_snoc (l : List Int) (n : Int) : b2aRun (l ++ [n]) = b2aStep (b2aRun l) n := by simp [b2aRun]
noncomputable def b2aEnd (a : B2) : List Int := if a.lb = 2 then a.out ++ [alI (a.lc % 4 * 16), 61, 61] else if a.lb = 4 then a.out ++ [alI (a.lc % 16 * 4), 61] else a.out
noncomputable def B2.Good (a : B2) (k : Nat) : Prop := (a.lb = 0 ∨ a.lb = 2 ∨ a.lb = 4) ∧ 0 ≤ a.lc ∧ a.lc < 65536 ∧ a.out.length ≤ k ∧ ∀ c ∈ a.out, 0 ≤ c ∧ c < 128
theorem b2aStep_good {a : B2} {k : Nat} (h : a.Good k) (n : Int) : (b2aStep a n).Good (k + 2) := by
  obtain ⟨h1, h2, h3, h4, h5⟩ := h
  have hb : ∀ x : Int, 0 ≤ x % 65536 ∧ x % 65536 < 65536 := fun x => ⟨Int.emod_nonneg _ (by decide), Int.emod_lt_of_pos _ (by decide)⟩
  unfold b2aStep
  dsimp only
  split
  · refine ⟨.inr (.inl rfl), (hb _).1, (hb _).2, by simp; omega, fun c hc => ?_⟩
    simp only [List.mem_append, List.mem_singleton] at hc
    rcases hc with hc | rfl
    · exact h5 c hc
    · exact alI_range _
  · split
    · refine ⟨.inr (.inr rfl), (hb _).1, (hb _).2, by simp; omega, fun c hc => ?_⟩
      simp only [List.mem_append, List.mem_singleton] at hc
      rcases hc with hc | rfl
      · exact h5 c hc
      · exact alI_range _
    · refine ⟨.inl rfl, (hb _).1, (hb _).2, by simp; omega, fun c hc => ?_⟩
      simp only [List.mem_append, List.mem_cons, List.not_mem_nil, or_false] at hc
      rcases hc with hc | rfl | rfl
      · exact h5 c hc
      · exact alI_range _
      · exact alI_range _
theorem b2aRun_good (l : List Int) : (b2aRun l).Good (2 * l.length) := by
  have : ∀ (l : List Int) (a : B2) (k : Nat), a.Good k → (l.foldl b2aStep a).Good (k + 2 * l.length) := by
    intro l
    induction l with
    | nil => intro a k h; exact h
    | cons n l ih =>
      intro a k h
      have := ih _ _ (b2aStep_good h n)
      rw [List.foldl_cons, List.length_cons]
      have e : k + 2 + 2 * l.length = k + 2 * (l.length + 1) := by omega
      rw [← e]; exact this
  have := this l ⟨[], 0, 0⟩ 0 ⟨.inl rfl, by decide, by decide, by decide, fun _ h => nomatch h⟩
  rw [Nat.zero_add] at this
  exact this
theorem b2aEnd_good (l : List Int) : (∀ c ∈ b2aEnd (b2aRun l), 0 ≤ c ∧ c < 128) ∧ (b2aEnd (b2aRun l)).length ≤ 2 * l.length + 3 := by
  obtain ⟨_, _, _, h4, h5⟩ := b2aRun_good l
  unfold b2aEnd
  split
  · refine ⟨fun c hc => ?_, by simp; omega⟩
    simp only [List.mem_append, List.mem_cons, List.not_mem_nil, or_false] at hc
    rcases hc with hc | rfl | rfl | rfl
    · exact h5 c hc
    · exact alI_range _
    · decide
    · decide
  · split
    · refine ⟨fun c hc => ?_, by simp; omega⟩
      simp only [List.mem_append, List.mem_cons, List.not_mem_nil, or_false] at hc
      rcases hc with hc | rfl | rfl
      · exact h5 c hc
      · exact alI_range _
      · decide
    · exact ⟨h5, by omega⟩
noncomputable def InvB (pre : List Int) (c : StB) : Prop := IntsAre c.vs (b2aRun pre).out ∧ c.lb = (b2aRun pre).lb ∧ c.lc = (b2aRun pre).lc
theorem invB0 {t1 t2 : Tok} : InvB [] ⟨[], 0, 0, 0, t1, t2⟩ := ⟨.nil, rfl, rfl⟩
theorem invB_facts {pre : List Int} {c : StB} (h : InvB pre c) : (c.lb = 0 ∨ c.lb = 2 ∨ c.lb = 4) ∧ 0 ≤ c.lc ∧ c.lc < 65536 ∧ c.vs.length ≤ 2 * pre.length := by
  obtain ⟨h1, h2, h3⟩ := h
  obtain ⟨g1, g2, g3, g4, _⟩ := b2aRun_good pre
  rw [h2, h3, h1.length]
  exact ⟨g1, g2, g3, g4⟩
theorem bitOr_disj (a n : Int) (k : Nat) (ha : 0 ≤ a) (h0 : 0 ≤ n) (h1 : n < 2 ^ k) : Builtin.bitOr (a * 2 ^ k) n = a * 2 ^ k + n := by
  obtain ⟨x, rfl⟩ := Int.eq_ofNat_of_zero_le ha
  obtain ⟨y, rfl⟩ := Int.eq_ofNat_of_zero_le h0
  have hy : y < 2 ^ k := by exact_mod_cast h1
  have e1 : ((x : Int) * 2 ^ k) = ((x * 2 ^ k : Nat) : Int) := by push_cast; rfl
  rw [e1]
  have nn : ∀ z : Nat, decide (0 ≤ Builtin.bitNot (z : Int)) = false := fun z => decide_eq_false (by unfold Builtin.bitNot; omega)
  have tn : ∀ z : Nat, (Builtin.bitNot (Builtin.bitNot (z : Int))).toNat = z := fun z => by
    simp only [Builtin.bitNot]; omega
  have bn : ∀ z : Nat, Builtin.bitNot (Builtin.bitNot (z : Int)) = (z : Int) := fun z => by
    simp only [Builtin.bitNot]; omega
  unfold Builtin.bitOr Builtin.bitAnd
  rw [nn, nn]
  dsimp only
  rw [tn, tn, bn, ← Nat.shiftLeft_eq, ← Nat.shiftLeft_add_eq_or_of_lt hy]
  push_cast
  rfl
end
section

theorem ints_AL : KBw.bInts #[65,66,67,68,69,70,71,72,73,74,75,76,77,78,79,80,81,82,83,84,85,86,87,88,89,90,97,98,99,100,101,102,103,104,105,106,107,108,109,110,111,112,113,114,115,116,117,118,119,120,121,122,48,49,50,51,52,53,54,55,56,57,43,47] = AL.map fun n : Nat => (n : Int) := by decide +kernel
theorem item_B64 {prog : Program} {w : World} {A : Around} {E : Value → Shared → Prop} {s : Shared} {value slice : Expr} {i : Int} {t ui : Tok} {Q : Value → Shared → Prop} (h0 : 0 ≤ i) (h1 : i < 64) (h : ∀ t' k, Q (.int (alI i) t') { s with toks := k })
    (hs : subscripted slice false (.bytes #[65,66,67,68,69,70,71,72,73,74,75,76,77,78,79,80,81,82,83,84,85,86,87,88,89,90,97,98,99,100,101,102,103,104,105,106,107,108,109,110,111,112,113,114,115,116,117,118,119,120,121,122,48,49,50,51,52,53,54,55,56,57,43,47] t) (.int i ui) = operate [.bytes #[65,66,67,68,69,70,71,72,73,74,75,76,77,78,79,80,81,82,83,84,85,86,87,88,89,90,97,98,99,100,101,102,103,104,105,106,107,108,109,110,111,112,113,114,115,116,117,118,119,120,121,122,48,49,50,51,52,53,54,55,56,57,43,47] t, .int i ui] (getItem (.bytes #[65,66,67,68,69,70,71,72,73,74,75,76,77,78,79,80,81,82,83,84,85,86,87,88,89,90,97,98,99,100,101,102,103,104,105,106,107,108,109,110,111,112,113,114,115,116,117,118,119,120,121,122,48,49,50,51,52,53,54,55,56,57,43,47] t) (.int i ui)) := by with_unfolding_all rfl)
    (ht : ∀ r, letTemporaryGo value (.bytes #[65,66,67,68,69,70,71,72,73,74,75,76,77,78,79,80,81,82,83,84,85,86,87,88,89,90,97,98,99,100,101,102,103,104,105,106,107,108,109,110,111,112,113,114,115,116,117,118,119,120,121,122,48,49,50,51,52,53,54,55,56,57,43,47] t) r = pure () := by intro _; with_unfolding_all rfl) :
    wpAny (model prog w) A (subscriptTail value slice (.bytes #[65,66,67,68,69,70,71,72,73,74,75,76,77,78,79,80,81,82,83,84,85,86,87,88,89,90,97,98,99,100,101,102,103,104,105,106,107,108,109,110,111,112,113,114,115,116,117,118,119,120,121,122,48,49,50,51,52,53,54,55,56,57,43,47] t) (.int i ui)) Q E s := by
  refine KBw.item_K ints_AL (by decide) h0 (by rw [List.length_map]; exact h1) (fun t' k _ _ => ?_) hs ht
  have e : (AL.map fun n : Nat => (n : Int)).getD i.toNat 0 = alI i := by
    unfold alI
    rw [List.getD_eq_getElem?_getD, List.getElem?_map, List.getD_eq_getElem?_getD]
    cases AL[i.toNat]? <;> rfl
  rw [e]
  exact h t' k
end
local macro_rules | `(tactic| walk_at "MYBITS") => `(tactic| ((try simp only [bitAnd_m2, bitAnd_m4, bitAnd_m6, bitAnd_m16, Int.reduceToNat, Int.reducePow, Int.reduceAdd, Int.reduceSub]); (try constructor) <;> omega))
local macro_rules | `(tactic| walk_at "pyIter bytes") => `(tactic| (refine Hold.out ?_))
local macro_rules | `(tactic| walk_at "call type:bytes") => `(tactic| (refine Hold.out ?_))
section
local macro_rules | `(tactic| walk_at "subscriptTail") => `(tactic| (k_here; (with_reducible show wpAny _ _ (subscriptTail (Expr.Name (Str.ofString "_B64") _) _ (Value.bytes _ _) (Value.int _ _)) _ _ _); (refine item_B64 ?k0 ?k1 ?_); (case k0 => walk_at "MYBITS"); (case k1 => walk_at "MYBITS"); intro _ _))

theorem lc_eq {lc n : Int} (hc0 : 0 ≤ lc) (h0 : 0 ≤ n) (h256 : n < 256) : Builtin.bitAnd (Builtin.bitOr (lc * 2 ^ Int.toNat 8) n) 65535 = (lc * 256 + n) % 65536 := by
  rw [show Int.toNat 8 = 8 from rfl, bitOr_disj lc n 8 hc0 h0 (by omega), bitAnd_m16]; rfl
theorem invB_step0 {pre : List Int} {n lc : Int} {vs : List Value} {k k' : Nat} {t1 t2 t3 t4 t5 : Tok} (hI : InvB pre ⟨vs, k, 0, lc, t1, t2⟩) (h0 : 0 ≤ n) (h256 : n < 256) (hc0 : 0 ≤ lc) :
    InvB (pre ++ [n]) ⟨vs ++ [.int (alI (Builtin.bitAnd (Int.fdiv (Builtin.bitAnd (Builtin.bitOr (lc * 2 ^ Int.toNat 8) n) 65535) (2 ^ Int.toNat (0 + 8 - 6))) 63)) t3], k', 0 + 8 - 6, Builtin.bitAnd (Builtin.bitOr (lc * 2 ^ Int.toNat 8) n) 65535, t4, t5⟩ := by
  obtain ⟨h1, h2, h3⟩ := hI
  dsimp only at h1 h2 h3
  have e : b2aRun (pre ++ [n]) = ⟨(b2aRun pre).out ++ [alI ((lc * 256 + n) % 65536 / 4 % 64)], 2, (lc * 256 + n) % 65536⟩ := by
    rw [b2aRun_snoc]; unfold b2aStep; rw [if_pos h2.symm, ← h3]
  rw [lc_eq hc0 h0 h256, bitAnd_m6]
  refine ⟨?_, ?_, ?_⟩ <;> rw [e] <;> dsimp only
  · rw [show (2 : Int) ^ Int.toNat (0 + 8 - 6) = 4 from rfl, Int.fdiv_eq_ediv_of_nonneg _ (by decide)]
    exact h1.append (.cons _ _ .nil)
  · rfl
theorem invB_step2 {pre : List Int} {n lc : Int} {vs : List Value} {k k' : Nat} {t1 t2 t3 t4 t5 : Tok} (hI : InvB pre ⟨vs, k, 2, lc, t1, t2⟩) (h0 : 0 ≤ n) (h256 : n < 256) (hc0 : 0 ≤ lc) :
    InvB (pre ++ [n]) ⟨vs ++ [.int (alI (Builtin.bitAnd (Int.fdiv (Builtin.bitAnd (Builtin.bitOr (lc * 2 ^ Int.toNat 8) n) 65535) (2 ^ Int.toNat (2 + 8 - 6))) 63)) t3], k', 2 + 8 - 6, Builtin.bitAnd (Builtin.bitOr (lc * 2 ^ Int.toNat 8) n) 65535, t4, t5⟩ := by
  obtain ⟨h1, h2, h3⟩ := hI
  dsimp only at h1 h2 h3
  have e : b2aRun (pre ++ [n]) = ⟨(b2aRun pre).out ++ [alI ((lc * 256 + n) % 65536 / 16 % 64)], 4, (lc * 256 + n) % 65536⟩ := by
    rw [b2aRun_snoc]; unfold b2aStep; rw [if_neg (by rw [← h2]; decide), if_pos h2.symm, ← h3]
  rw [lc_eq hc0 h0 h256, bitAnd_m6]
  refine ⟨?_, ?_, ?_⟩ <;> rw [e] <;> dsimp only
  · rw [show (2 : Int) ^ Int.toNat (2 + 8 - 6) = 16 from rfl, Int.fdiv_eq_ediv_of_nonneg _ (by decide)]
    exact h1.append (.cons _ _ .nil)
  · rfl
theorem invB_step4 {pre : List Int} {n lc : Int} {vs : List Value} {k k' : Nat} {t1 t2 t3 t4 t5 t6 : Tok} (hI : InvB pre ⟨vs, k, 4, lc, t1, t2⟩) (h0 : 0 ≤ n) (h256 : n < 256) (hc0 : 0 ≤ lc) :
    InvB (pre ++ [n]) ⟨vs ++ [.int (alI (Builtin.bitAnd (Int.fdiv (Builtin.bitAnd (Builtin.bitOr (lc * 2 ^ Int.toNat 8) n) 65535) (2 ^ Int.toNat (4 + 8 - 6))) 63)) t3] ++ [.int (alI (Builtin.bitAnd (Int.fdiv (Builtin.bitAnd (Builtin.bitOr (lc * 2 ^ Int.toNat 8) n) 65535) (2 ^ Int.toNat (4 + 8 - 6 - 6))) 63)) t6], k', 4 + 8 - 6 - 6, Builtin.bitAnd (Builtin.bitOr (lc * 2 ^ Int.toNat 8) n) 65535, t4, t5⟩ := by
  obtain ⟨h1, h2, h3⟩ := hI
  dsimp only at h1 h2 h3
  have e : b2aRun (pre ++ [n]) = ⟨(b2aRun pre).out ++ [alI ((lc * 256 + n) % 65536 / 64 % 64), alI ((lc * 256 + n) % 65536 % 64)], 0, (lc * 256 + n) % 65536⟩ := by
    rw [b2aRun_snoc]; unfold b2aStep; rw [if_neg (by rw [← h2]; decide), if_neg (by rw [← h2]; decide), ← h3]
  rw [lc_eq hc0 h0 h256, bitAnd_m6, bitAnd_m6]
  refine ⟨?_, ?_, ?_⟩ <;> rw [e] <;> dsimp only
  · rw [show (2 : Int) ^ Int.toNat (4 + 8 - 6) = 64 from rfl, show (2 : Int) ^ Int.toNat (4 + 8 - 6 - 6) = 1 from rfl, Int.fdiv_eq_ediv_of_nonneg _ (by decide), Int.fdiv_eq_ediv_of_nonneg _ (by decide), Int.ediv_one, List.append_assoc]
    exact h1.append (.cons _ _ (.cons _ _ .nil))
  · rfl
theorem invB_end0 {ks : List Int} {lc : Int} {vs : List Value} {k : Nat} {t1 t2 : Tok} (hI : InvB ks ⟨vs, k, 0, lc, t1, t2⟩) : IntsAre vs (b2aEnd (b2aRun ks)) := by
  obtain ⟨h1, h2, h3⟩ := hI
  dsimp only at h1 h2 h3
  unfold b2aEnd
  rw [if_neg (by rw [← h2]; decide), if_neg (by rw [← h2]; decide)]
  exact h1
theorem invB_end2 {ks : List Int} {lc : Int} {vs : List Value} {k : Nat} {t1 t2 t3 t4 t5 : Tok} (hI : InvB ks ⟨vs, k, 2, lc, t1, t2⟩) : IntsAre (vs ++ [.int (alI (Builtin.bitAnd lc 3 * 2 ^ Int.toNat 4)) t3] ++ [.int 61 t4] ++ [.int 61 t5]) (b2aEnd (b2aRun ks)) := by
  obtain ⟨h1, h2, h3⟩ := hI
  dsimp only at h1 h2 h3
  unfold b2aEnd
  rw [if_pos h2.symm, ← h3, bitAnd_m2, List.append_assoc, List.append_assoc]
  exact h1.append (.cons _ _ (.cons _ _ (.cons _ _ .nil)))
theorem invB_end4 {ks : List Int} {lc : Int} {vs : List Value} {k : Nat} {t1 t2 t3 t4 : Tok} (hI : InvB ks ⟨vs, k, 4, lc, t1, t2⟩) : IntsAre (vs ++ [.int (alI (Builtin.bitAnd lc 15 * 2 ^ Int.toNat 2)) t3] ++ [.int 61 t4]) (b2aEnd (b2aRun ks)) := by
  obtain ⟨h1, h2, h3⟩ := hI
  dsimp only at h1 h2 h3
  unfold b2aEnd
  rw [if_neg (by rw [← h2]; decide), if_pos h2.symm, ← h3, bitAnd_m4, List.append_assoc]
  exact h1.append (.cons _ _ (.cons _ _ .nil))
set_option maxHeartbeats 4000000 in
theorem ct_b2a (W : Wd) (b : Array UInt8) (tb : Tok) (ks : List Int) (hks : KBw.bInts b = ks) (hl : ks.length ≤ 100) : Ct0 W 2 191 [.bytes b tb] [(Str.ofString "newline", .bool false)] (fun _ => True) (fun t => .bytes (byteArr (b2aEnd (b2aRun ks))) t) := by
  intro dp un gd cn cs a ccd cl outer A₀ base h₀ L m s Q E B F X T hk hpre hdp hun hret
  walk_at "MYFILL"
  refine wpAny_call ?_
  k_dflt (refine' code_def0 (binds := [(Str.ofString "data", .bytes b tb), (Str.ofString "newline", .bool false)]) ?k1 ?k2 ?k3 ?k5 ?kA ?kF ?kK ?k6 ?k7 ?k8 ?k9 ?kB ?_ ?c2 ?c3 ?c4 ?c5; (case kA => exact rfl); (case kF => exact rfl); (case kK => assumption); (case k1 => k_asm); (case k2 => k_asm); (case k3 => k_asm); (case k5 => k_asm); (case k6 => k_is); (case k7 => k_is); (case k8 => walk_at "MYROOM"); (case k9 => first | exact BindsTo.of_eq rfl | exact binds_K (X.keeps F.keep) rfl (by k_is) rfl rfl rfl | (refine' kp_binds ?kx ?ke; (case kx => exact X.keeps F.keep); (case ke => exact fun _ => rfl))); (case c5 => decide); (case kB => exact locs rfl); (case c2 => exact rfl); (case c3 => exact rfl); (case c4 => exact rfl); k_whole; intro L1 h1 F1 N1 B1 X1 T1; (try dsimp only [List.reverse_cons, List.reverse_nil, List.nil_append, List.cons_append, List.append_eq] at F1); (try dsimp only); (try k_fold))
  k_steps
  refine Hold.mk ?_
  rename News _ _ _ _ => nE9
  rename Fr _ _ _ _ => fE9
  refine loop_bytes (σ := StB) StB.vs StB.k (fun c => [(Str.ofString "leftbits", .int c.lb c.t1), (Str.ofString "leftchar", .int c.lc c.t2)]) [Str.ofString "b"] InvB ⟨[], 0, 0, 0, _, _⟩ hks rfl fE9 nE9 rfl (List.forall_mem_cons.2 ⟨rfl, List.forall_mem_cons.2 ⟨rfl, fun _ h => nomatch h⟩⟩) invB0 ?_ ?_
  · intro c pre post n t u h tk own hn h0 h256 hoff hI FB NB
    have hpl : pre.length < ks.length := by rw [hn]; simp
    clear fE9 nE9
    obtain ⟨vs, k, lb, lc, t1, t2⟩ := c
    obtain ⟨hlb, hc0, hc1, hvl⟩ := invB_facts hI
    dsimp only at *
    rcases hlb with rfl | rfl | rfl
    all_goals k_steps
    all_goals (rename News _ _ _ _ => nE; rename Fr _ _ _ _ => fE; simp only [List.push_toArray] at nE; refine loop_end ⟨_, _, _, _, _, _⟩ fE nE (List.Mem.head _) (fun p hp => List.Mem.tail _ hp) (by kst_all) (by walk_at "MYSAME") ?_)
    · exact invB_step0 hI h0 h256 hc0
    · exact invB_step2 hI h0 h256 hc0
    · exact invB_step4 hI h0 h256 hc0
  · intro c u h tk hI FB NB
    clear fE9 nE9
    obtain ⟨vs, k, lb, lc, t1, t2⟩ := c
    obtain ⟨hlb, hc0, hc1, hvl⟩ := invB_facts hI
    dsimp only at *
    have hb3 := bitAnd_range lc (y := 3) (by decide)
    have hb15 := bitAnd_range lc (y := 15) (by decide)
    have hgood := b2aEnd_good ks
    have hlen : (b2aEnd (b2aRun ks)).length ≤ 16777216 := by omega
    have hin : KBa.In (b2aEnd (b2aRun ks)) := fun c hc => ⟨(hgood.1 c hc).1, by have := (hgood.1 c hc).2; omega⟩
    rcases hlb with rfl | rfl | rfl
    all_goals k_steps
    all_goals refine Hold.mk ?_
    all_goals (rename News _ _ _ _ => nE; rename Fr _ _ _ _ => fE; (try simp only [List.push_toArray] at nE))
    · refine KBa.make_K fE nE rfl ⟨_, (nE _ (.head _)).1, rfl, _, rfl⟩ (invB_end0 hI) hin hlen ?_
      intro h' t' k' F9 N9 _
      k_steps
      exact ct_ret hret _ rfl (by assumption)
    · refine KBa.make_K fE nE rfl ⟨_, (nE _ (.head _)).1, rfl, _, rfl⟩ (invB_end2 hI) hin hlen ?_
      intro h' t' k' F9 N9 _
      k_steps
      exact ct_ret hret _ rfl (by assumption)
    · refine KBa.make_K fE nE rfl ⟨_, (nE _ (.head _)).1, rfl, _, rfl⟩ (invB_end4 hI) hin hlen ?_
      intro h' t' k' F9 N9 _
      k_steps
      exact ct_ret hret _ rfl (by assumption)
end
section

theorem b64v_range {c : Int} (h0 : 0 ≤ c) (h1 : c < 256) : 0 ≤ b64v c ∧ b64v c ≤ 64 := by
  unfold b64v; (repeat' split) <;> omega
structure A2 where
  out : List Int
  q : Int
  lc : Int
  pads : Int
  i : Int
noncomputable def a2bStep (st : Bool) (a : A2) (c : Int) : Option A2 :=
  if c = 61 then
    if 2 ≤ a.q ∧ a.q + (a.pads + 1) ≤ 4 then some { a with pads := a.pads + 1, i := a.i + 1 }
    else if st = false then some { a with pads := a.pads + 1, i := a.i + 1 }
    else none
  else if 64 ≤ b64v c then (if st then none else some { a with i := a.i + 1 })
  else if a.pads ≠ 0 ∧ st = true then none
  else if a.q = 0 then some ⟨a.out, 1, b64v c, 0, a.i + 1⟩
  else if a.q = 1 then some ⟨a.out ++ [a.lc * 4 + b64v c / 16], 2, b64v c % 16, 0, a.i + 1⟩
  else if a.q = 2 then some ⟨a.out ++ [a.lc * 16 + b64v c / 4], 3, b64v c % 4, 0, a.i + 1⟩
  else some ⟨a.out ++ [a.lc * 64 + b64v c], 0, 0, 0, a.i + 1⟩
noncomputable def a2bRun (st : Bool) (l : List Int) : Option A2 := l.foldlM (a2bStep st) ⟨[], 0, 0, 0, 0⟩
noncomputable def a2bEnd (a : A2) : Option (List Int) := if a.q = 1 then none else if a.q ≠ 0 ∧ a.q + a.pads < 4 then none else some a.out
noncomputable def a2b (st : Bool) (l : List Int) : Option (List Int) := (a2bRun st l).bind a2bEnd
theorem a2bRun_app (st : Bool) (l r : List Int) : a2bRun st (l ++ r) = (a2bRun st l).bind fun a => r.foldlM (a2bStep st) a := by
  simp [a2bRun, List.foldlM_append]
theorem a2bRun_snoc (st : Bool) (l : List Int) (c : Int) : a2bRun st (l ++ [c]) = (a2bRun st l).bind fun a => a2bStep st a c := by
  rw [a2bRun_app]
  congr 1
  funext a
  simp
theorem a2b_none {st : Bool} {pre post : List Int} {c : Int} (h : a2bRun st (pre ++ [c]) = none) : a2b st (pre ++ c :: post) = none := by
  have e : pre ++ c :: post = (pre ++ [c]) ++ post := by simp
  unfold a2b
  rw [e, a2bRun_app, h]
  rfl
noncomputable def A2.Good (a : A2) (k : Nat) : Prop := (a.q = 0 ∨ (a.q = 1 ∧ a.lc < 64) ∨ (a.q = 2 ∧ a.lc < 16) ∨ (a.q = 3 ∧ a.lc < 4)) ∧ 0 ≤ a.lc ∧ 0 ≤ a.pads ∧ a.pads ≤ k ∧ 0 ≤ a.i ∧ a.i ≤ k ∧ a.out.length ≤ k ∧ ∀ c ∈ a.out, 0 ≤ c ∧ c < 256
theorem a2bStep_good {st : Bool} {a b : A2} {k : Nat} {c : Int} (h : a.Good k) (h0 : 0 ≤ c) (h1 : c < 256) (e : a2bStep st a c = some b) : b.Good (k + 1) := by
  obtain ⟨hq, hl, p0, p1, i0, i1, ho, hr⟩ := h
  have hv := b64v_range h0 h1
  have app : ∀ x : Int, 0 ≤ x ∧ x < 256 → ∀ c ∈ a.out ++ [x], 0 ≤ c ∧ c < 256 := fun x hx c hc => by
    rcases List.mem_append.mp hc with hc | hc
    · exact hr c hc
    · rw [List.mem_singleton.mp hc]; exact hx
  unfold a2bStep at e
  (repeat' split at e) <;> first | cases e | (obtain rfl := Option.some.inj e)
  · exact ⟨hq, hl, by dsimp only; omega, by dsimp only; omega, by dsimp only; omega, by dsimp only; omega, by dsimp only; omega, hr⟩
  · exact ⟨hq, hl, by dsimp only; omega, by dsimp only; omega, by dsimp only; omega, by dsimp only; omega, by dsimp only; omega, hr⟩
  · exact ⟨hq, hl, p0, by dsimp only; omega, by dsimp only; omega, by dsimp only; omega, by dsimp only; omega, hr⟩
  · exact ⟨.inr (.inl ⟨rfl, by dsimp only; omega⟩), by dsimp only; omega, Int.le_refl 0, by dsimp only; omega, by dsimp only; omega, by dsimp only; omega, by dsimp only; omega, hr⟩
  · exact ⟨.inr (.inr (.inl ⟨rfl, by dsimp only; omega⟩)), by dsimp only; omega, Int.le_refl 0, by dsimp only; omega, by dsimp only; omega, by dsimp only; omega, by simp; omega, app _ (by omega)⟩
  · exact ⟨.inr (.inr (.inr ⟨rfl, by dsimp only; omega⟩)), by dsimp only; omega, Int.le_refl 0, by dsimp only; omega, by dsimp only; omega, by dsimp only; omega, by simp; omega, app _ (by omega)⟩
  · exact ⟨.inl rfl, Int.le_refl 0, Int.le_refl 0, by dsimp only; omega, by dsimp only; omega, by dsimp only; omega, by simp; omega, app _ (by omega)⟩
theorem a2bRun_good (st : Bool) : ∀ (l : List Int), (∀ c ∈ l, 0 ≤ c ∧ c < 256) → ∀ b, a2bRun st l = some b → b.Good l.length := by
  have : ∀ (l : List Int) (a b : A2) (k : Nat), (∀ c ∈ l, 0 ≤ c ∧ c < 256) → a.Good k → l.foldlM (a2bStep st) a = some b → b.Good (k + l.length) := by
    intro l
    induction l with
    | nil => intro a b k _ h e; cases e; exact h
    | cons c l ih =>
      intro a b k hc h e
      rw [List.foldlM_cons] at e
      cases e1 : a2bStep st a c with
      | none => rw [e1] at e; cases e
      | some a' =>
        rw [e1] at e
        have hc0 := hc c (.head _)
        have := ih a' b (k + 1) (fun c h => hc c (.tail _ h)) (a2bStep_good h hc0.1 hc0.2 e1) e
        rw [List.length_cons, show k + (l.length + 1) = k + 1 + l.length by omega]
        exact this
  intro l hc b e
  have := this l ⟨[], 0, 0, 0, 0⟩ b 0 hc ⟨.inl rfl, by decide, by decide, by decide, by decide, by decide, by decide, fun _ h => nomatch h⟩ e
  rw [Nat.zero_add] at this
  exact this

/-! ## calls that may raise -/
noncomputable abbrev GOk (g g' : Array GenState) : Prop := AllBare g → AllBare g'
theorem dicts_push {outer : List Env} {h₀ h : Heap} {L : Addr} {m : Str → Option Value} {env : Env} (D : KtsDicts (outer.filterMap (·.frame)) h₀) (F : Fr h₀ L h m) (hf : env.frame = some L) : KtsDicts ((env :: outer).filterMap (·.frame)) h := by
  intro b hb
  obtain ⟨env', he, hb'⟩ := List.mem_filterMap.mp hb
  rcases List.mem_cons.mp he with rfl | he
  · rw [hf] at hb'
    obtain rfl := Option.some.inj hb'
    obtain ⟨oL, es, ep, hL, hd, _⟩ := F.ns
    exact ⟨oL, es, ep, hL, hd⟩
  · obtain ⟨o, es, n, ho, hd⟩ := D b (List.mem_filterMap.mpr ⟨env', he, hb'⟩)
    exact ⟨o, es, n, F.keep _ _ ho, hd⟩
noncomputable abbrev Raise := Heap → Heap → List Env → Addr → Heap → Prop
noncomputable def raErr : Raise := fun base G l e h => ∃ t vs, RaisedS base G l e (.ref 144) t vs [] h
noncomputable def raIdx : Raise := fun base G l e h => RaisedSN base G l e (.type "IndexError") [] h
end
local macro_rules | `(tactic| walk_at "MYTLI") => `(tactic| (walk_at "MYTLR"; (intro hs9 e9 h9 tk9 hR9 hU9; (unfold raIdx at hR9)); walk_at "MYD"; rotate_left))
section
/-- what a call that may raise does: with spec some R it gives back R, with none it raises -/
noncomputable def CtE (W : Wd) (need : Nat) (f : Addr) (pos : List Value) (kw : List (Str × Value)) (spec : Option (Tok → Value)) (Ra : Raise) : Prop :=
  ∀ (dp un : Nat) (gd : Option (List Code)) (cn : Str) (cs : Scope) (a : Addr) (ccd : Value) (cl : List (Str × Addr)) (outer : List Env) (A₀ : Around) (base h₀ : Heap) (L : Addr) (m : Str → Option Value) (s : Shared) (Q E : Value → Shared → Prop),
    Below A₀ base outer h₀ → Fr h₀ L s.heap m → (hd.heap_39 W.w.params).In h₀ → Top hd.view_39 Loo W.mean W.mg W.mb h₀ → cs.kind = .function →
    (hd.heap_39 W.w.params).In base → Top hd.view_39 Loo W.mean W.mg W.mb base → KtsDicts (outer.filterMap (·.frame)) h₀ →
    dp + need < recursionLimit → un + 8 * need < cLine →
    (∀ R, spec = some R → ∀ t h' tk' gs', Kp s.heap h' → GOk s.gens gs' → Q (R t) { s with heap := h', toks := tk', gens := gs' }) →
    (spec = none → ∀ e h' tk', Ra base s.heap (envX cn cs L a ccd cl :: outer) e h' → s.heap.UpToSlots h' → E (.ref e) { s with heap := h', toks := tk' }) →
    wpAny (model Prg W.w) (ktrTop dp un gd cn cs L a ccd cl outer) (call (.ref f) pos kw) Q E s
section
variable {base h₀ h' : Heap} {L L1 : Addr} {m m1 : Str → Option Value} {s : Shared} {Q E : Value → Shared → Prop} {spec : Option (Tok → Value)} {Ra : Raise} {l : List Env} {tk' : Nat} {v : Value} {e : Addr}
theorem cte_ret (hret : ∀ R, spec = some R → ∀ t h' tk' gs', Kp s.heap h' → GOk s.gens gs' → Q (R t) { s with heap := h', toks := tk', gens := gs' }) (R : Tok → Value) (hs : spec = some R) (t : Tok) (e : v = R t) (F : Fr s.heap L1 h' m1) : Q v { s with heap := h', toks := tk' } := by
  subst e
  exact hret R hs t h' tk' _ F.keep id
theorem cte_errE (herr : spec = none → ∀ e h' tk', raErr base s.heap l e h' → s.heap.UpToSlots h' → E (.ref e) { s with heap := h', toks := tk' }) (hs : spec = none) {t : Addr} {vs : List Value} {news : Led} (R : RaisedS base s.heap l e (.ref 144) t vs news h') (U : s.heap.UpToSlots h') : E (.ref e) { s with heap := h', toks := tk' } :=
  herr hs e h' tk' ⟨t, vs, let ⟨⟨B, h1, h2, _, h4, h5⟩, h6⟩ := R; ⟨⟨B, h1, h2, (fun _ h => nomatch h), h4, h5⟩, h6⟩⟩ U
end

theorem CtE.use {W : Wd} {need f : Nat} {pos : List Value} {kw : List (Str × Value)} {spec : Option (Tok → Value)} {Ra : Raise}
  {dp un : Nat} {gd : Option (List Code)} {cn : Str} {cs : Scope} {a : Addr} {ccd : Value} {cl : List (Str × Addr)} {outer : List Env} {A₀ : Around} {base h₀ : Heap} {L : Addr} {m : Str → Option Value} {news : Led} {s : Shared} {Q E : Value → Shared → Prop}
    (C : CtE W need f pos kw spec Ra) (B : Below A₀ base outer h₀) (F : Fr h₀ L s.heap m) (X : (hd.heap_39 W.w.params).In h₀) (N : News h₀ L s.heap news) (T : Top hd.view_39 Loo W.mean W.mg W.mb h₀) (hk : cs.kind = .function)
    (XB : (hd.heap_39 W.w.params).In base) (TB : Top hd.view_39 Loo W.mean W.mg W.mb base) (D : KtsDicts (outer.filterMap (·.frame)) h₀) (hd : dp + need < recursionLimit) (hu : un + 8 * need < cLine)
    (ret : ∀ R, spec = some R → ∀ t h' tk' gs', Fr h₀ L h' m → News h₀ L h' news → GOk s.gens gs' → Q (R t) { s with heap := h', toks := tk', gens := gs' })
    (err : spec = none → ∀ e h' tk', Ra base s.heap (envX cn cs L a ccd cl :: outer) e h' → s.heap.UpToSlots h' → E (.ref e) { s with heap := h', toks := tk' }) :
    wpAny (model Prg W.w) (ktrTop dp un gd cn cs L a ccd cl outer) (call (.ref f) pos kw) Q E s :=
  C _ _ _ _ _ _ _ _ _ _ _ _ _ _ _ _ _ B F X T hk XB TB D hd hu (fun R hs t h' tk' gs' k g => ret R hs t h' tk' gs' (F.after k) (N.grown k) g) err
end
local macro_rules | `(tactic| walk_at "MYUE") => `(tactic| refine' CtE.use ?kC ?kB ?kF ?kX ?kN ?kT ?kK ?kXB ?kTB ?kDD ?kD ?kU ?kR ?kE)
local macro_rules | `(tactic| walk_at "MYNO") => `(tactic| case kE => exact fun hs9 => nomatch hs9)
section

structure StA where
  vs : List Value
  k : Nat
  q : Int
  lc : Int
  pads : Int
  i : Int
  t1 : Tok
  t2 : Tok
  t3 : Tok
  t4 : Tok
noncomputable def InvA (st : Bool) (pre : List Int) (c : StA) : Prop := ∃ ns, a2bRun st pre = some ⟨ns, c.q, c.lc, c.pads, c.i⟩ ∧ IntsAre c.vs ns
theorem invA0 {st : Bool} {t1 t2 t3 t4 : Tok} : InvA st [] ⟨[], 0, 0, 0, 0, 0, t1, t2, t3, t4⟩ := ⟨[], rfl, .nil⟩
theorem invA_facts {st : Bool} {pre : List Int} {c : StA} (hp : ∀ c ∈ pre, 0 ≤ c ∧ c < 256) (h : InvA st pre c) : (c.q = 0 ∨ (c.q = 1 ∧ c.lc < 64) ∨ (c.q = 2 ∧ c.lc < 16) ∨ (c.q = 3 ∧ c.lc < 4)) ∧ 0 ≤ c.lc ∧ 0 ≤ c.pads ∧ c.pads ≤ pre.length ∧ 0 ≤ c.i ∧ c.i ≤ pre.length ∧ c.vs.length ≤ pre.length := by
  obtain ⟨ns, h1, h2⟩ := h
  obtain ⟨g1, g2, g3, g4, g5, g6, g7, _⟩ := a2bRun_good st pre hp _ h1
  exact ⟨g1, g2, g3, g4, g5, g6, by rw [h2.length]; exact g7⟩

section
variable {st : Bool} {pre post ks : List Int} {n q lc pads i : Int} {vs : List Value} {k k' : Nat} {t1 t2 t3 t4 t5 t6 t7 t8 t9 : Tok}
theorem invA_61 (hI : InvA st pre ⟨vs, k, q, lc, pads, i, t1, t2, t3, t4⟩) (hn : n = 61) (h : (2 ≤ q ∧ q + (pads + 1) ≤ 4) ∨ st = false) : InvA st (pre ++ [n]) ⟨vs, k', q, lc, pads + 1, i + 1, t5, t6, t7, t8⟩ := by
  obtain ⟨ns, h1, h2⟩ := hI
  refine ⟨ns, ?_, h2⟩
  rw [a2bRun_snoc, h1]
  show a2bStep st _ n = _
  unfold a2bStep
  rw [if_pos hn]
  by_cases hc : 2 ≤ q ∧ q + (pads + 1) ≤ 4
  · rw [if_pos hc]
  · rw [if_neg hc, if_pos (h.resolve_left hc)]
theorem invA_skip (hI : InvA st pre ⟨vs, k, q, lc, pads, i, t1, t2, t3, t4⟩) (hn : n ≠ 61) (hv : 64 ≤ b64v n) (hs : st = false) : InvA st (pre ++ [n]) ⟨vs, k', q, lc, pads, i + 1, t5, t6, t7, t8⟩ := by
  obtain ⟨ns, h1, h2⟩ := hI
  refine ⟨ns, ?_, h2⟩
  rw [a2bRun_snoc, h1]
  show a2bStep st _ n = _
  unfold a2bStep
  rw [if_neg hn, if_pos hv, hs]
  rfl
theorem invA_q0 (hI : InvA st pre ⟨vs, k, q, lc, pads, i, t1, t2, t3, t4⟩) (hn : n ≠ 61) (hv : ¬ 64 ≤ b64v n) (hp : ¬ (pads ≠ 0 ∧ st = true)) (hq : q = 0) : InvA st (pre ++ [n]) ⟨vs, k', 1, b64v n, 0, i + 1, t5, t6, t7, t8⟩ := by
  obtain ⟨ns, h1, h2⟩ := hI
  refine ⟨ns, ?_, h2⟩
  rw [a2bRun_snoc, h1]
  show a2bStep st _ n = _
  unfold a2bStep
  rw [if_neg hn, if_neg hv, if_neg hp, if_pos hq]
theorem invA_q1 (hI : InvA st pre ⟨vs, k, q, lc, pads, i, t1, t2, t3, t4⟩) (hn : n ≠ 61) (hv : ¬ 64 ≤ b64v n) (hp : ¬ (pads ≠ 0 ∧ st = true)) (hq : q = 1) (hc0 : 0 ≤ lc) (hr : 0 ≤ b64v n ∧ b64v n ≤ 64) :
    InvA st (pre ++ [n]) ⟨vs ++ [.int (Builtin.bitOr (lc * 2 ^ Int.toNat 2) (Int.fdiv (b64v n) (2 ^ Int.toNat 4))) t9], k', 2, Builtin.bitAnd (b64v n) 15, 0, i + 1, t5, t6, t7, t8⟩ := by
  obtain ⟨ns, h1, h2⟩ := hI
  have e : Builtin.bitOr (lc * 2 ^ Int.toNat 2) (Int.fdiv (b64v n) (2 ^ Int.toNat 4)) = lc * 4 + b64v n / 16 := by
    rw [show (2 : Int) ^ Int.toNat 4 = 16 from rfl, Int.fdiv_eq_ediv_of_nonneg _ (by decide), show Int.toNat 2 = 2 from rfl, bitOr_disj _ _ 2 hc0 (by omega) (by omega)]; rfl
  rw [e, bitAnd_m4]
  refine ⟨ns ++ [lc * 4 + b64v n / 16], ?_, h2.append (.cons _ _ .nil)⟩
  rw [a2bRun_snoc, h1]
  show a2bStep st _ n = _
  unfold a2bStep
  rw [if_neg hn, if_neg hv, if_neg hp, if_neg (by dsimp only; omega), if_pos hq]
theorem invA_q2 (hI : InvA st pre ⟨vs, k, q, lc, pads, i, t1, t2, t3, t4⟩) (hn : n ≠ 61) (hv : ¬ 64 ≤ b64v n) (hp : ¬ (pads ≠ 0 ∧ st = true)) (hq : q = 2) (hc0 : 0 ≤ lc) (hr : 0 ≤ b64v n ∧ b64v n ≤ 64) :
    InvA st (pre ++ [n]) ⟨vs ++ [.int (Builtin.bitOr (lc * 2 ^ Int.toNat 4) (Int.fdiv (b64v n) (2 ^ Int.toNat 2))) t9], k', 3, Builtin.bitAnd (b64v n) 3, 0, i + 1, t5, t6, t7, t8⟩ := by
  obtain ⟨ns, h1, h2⟩ := hI
  have e : Builtin.bitOr (lc * 2 ^ Int.toNat 4) (Int.fdiv (b64v n) (2 ^ Int.toNat 2)) = lc * 16 + b64v n / 4 := by
    rw [show (2 : Int) ^ Int.toNat 2 = 4 from rfl, Int.fdiv_eq_ediv_of_nonneg _ (by decide), show Int.toNat 4 = 4 from rfl, bitOr_disj _ _ 4 hc0 (by omega) (by omega)]; rfl
  rw [e, bitAnd_m2]
  refine ⟨ns ++ [lc * 16 + b64v n / 4], ?_, h2.append (.cons _ _ .nil)⟩
  rw [a2bRun_snoc, h1]
  show a2bStep st _ n = _
  unfold a2bStep
  rw [if_neg hn, if_neg hv, if_neg hp, if_neg (by dsimp only; omega), if_neg (by dsimp only; omega), if_pos hq]
theorem invA_q3 (hI : InvA st pre ⟨vs, k, q, lc, pads, i, t1, t2, t3, t4⟩) (hn : n ≠ 61) (hv : ¬ 64 ≤ b64v n) (hp : ¬ (pads ≠ 0 ∧ st = true)) (hq0 : q ≠ 0) (hq1 : q ≠ 1) (hq2 : q ≠ 2) (hc0 : 0 ≤ lc) (hr : 0 ≤ b64v n ∧ b64v n ≤ 64) :
    InvA st (pre ++ [n]) ⟨vs ++ [.int (Builtin.bitOr (lc * 2 ^ Int.toNat 6) (b64v n)) t9], k', 0, 0, 0, i + 1, t5, t6, t7, t8⟩ := by
  obtain ⟨ns, h1, h2⟩ := hI
  have e : Builtin.bitOr (lc * 2 ^ Int.toNat 6) (b64v n) = lc * 64 + b64v n := by
    rw [show Int.toNat 6 = 6 from rfl, bitOr_disj _ _ 6 hc0 hr.1 (by omega)]; rfl
  rw [e]
  refine ⟨ns ++ [lc * 64 + b64v n], ?_, h2.append (.cons _ _ .nil)⟩
  rw [a2bRun_snoc, h1]
  show a2bStep st _ n = _
  unfold a2bStep
  rw [if_neg hn, if_neg hv, if_neg hp, if_neg hq0, if_neg hq1, if_neg hq2]
theorem invA_r61 (hI : InvA st pre ⟨vs, k, q, lc, pads, i, t1, t2, t3, t4⟩) (hk : ks = pre ++ n :: post) (hn : n = 61) (h : ¬ (2 ≤ q ∧ q + (pads + 1) ≤ 4)) (hs : st = true) : a2b st ks = none := by
  obtain ⟨ns, h1, h2⟩ := hI
  rw [hk]
  refine a2b_none ?_
  rw [a2bRun_snoc, h1]
  show a2bStep st _ n = _
  unfold a2bStep
  rw [if_pos hn, if_neg h, if_neg (by rw [hs]; decide)]
theorem invA_rv (hI : InvA st pre ⟨vs, k, q, lc, pads, i, t1, t2, t3, t4⟩) (hk : ks = pre ++ n :: post) (hn : n ≠ 61) (hv : 64 ≤ b64v n) (hs : st = true) : a2b st ks = none := by
  obtain ⟨ns, h1, h2⟩ := hI
  rw [hk]
  refine a2b_none ?_
  rw [a2bRun_snoc, h1]
  show a2bStep st _ n = _
  unfold a2bStep
  rw [if_neg hn, if_pos hv, hs]
  rfl
theorem invA_rp (hI : InvA st pre ⟨vs, k, q, lc, pads, i, t1, t2, t3, t4⟩) (hk : ks = pre ++ n :: post) (hn : n ≠ 61) (hv : ¬ 64 ≤ b64v n) (hp : pads ≠ 0) (hs : st = true) : a2b st ks = none := by
  obtain ⟨ns, h1, h2⟩ := hI
  rw [hk]
  refine a2b_none ?_
  rw [a2bRun_snoc, h1]
  show a2bStep st _ n = _
  unfold a2bStep
  rw [if_neg hn, if_neg hv, if_pos ⟨hp, hs⟩]
theorem invA_e1 (hI : InvA st ks ⟨vs, k, q, lc, pads, i, t1, t2, t3, t4⟩) (h : q = 1 ∨ (q ≠ 0 ∧ q + pads < 4)) : a2b st ks = none := by
  obtain ⟨ns, h1, h2⟩ := hI
  unfold a2b
  rw [h1]
  show a2bEnd _ = _
  unfold a2bEnd
  by_cases hq : q = 1
  · rw [if_pos hq]
  · rw [if_neg hq, if_pos (h.resolve_left hq)]
theorem invA_e0 (hI : InvA st ks ⟨vs, k, q, lc, pads, i, t1, t2, t3, t4⟩) (hq : q ≠ 1) (h : ¬ (q ≠ 0 ∧ q + pads < 4)) : ∃ ns, a2b st ks = some ns ∧ IntsAre vs ns := by
  obtain ⟨ns, h1, h2⟩ := hI
  refine ⟨ns, ?_, h2⟩
  unfold a2b
  rw [h1]
  show a2bEnd _ = _
  unfold a2bEnd
  rw [if_neg hq, if_neg h]
theorem a2b_in (hk : ∀ c ∈ ks, 0 ≤ c ∧ c < 256) {ns : List Int} (h : a2b st ks = some ns) : KBa.In ns ∧ ns.length ≤ ks.length := by
  unfold a2b at h
  cases e : a2bRun st ks with
  | none => rw [e] at h; cases h
  | some a =>
    rw [e] at h
    obtain ⟨_, _, _, _, _, _, g7, g8⟩ := a2bRun_good st ks hk _ e
    change a2bEnd a = some ns at h
    unfold a2bEnd at h
    (repeat' split at h) <;> first | (cases h; done) | (obtain rfl := Option.some.inj h; exact ⟨g8, g7⟩)
end
end
local macro_rules | `(tactic| walk_at "call builtin:len") => `(tactic| (k_here; (with_reducible show wpAny _ _ (call (Value.builtin "len") [Value.ref _]) _ _ _); k_dflt (refine' kst_len ?k1 ?k2 rfl ?k4 ?_; (case k1 => k_asm); (case k2 => exact List.Mem.head _); (case k4 => omega); k_whole)))
section
noncomputable def TrIs (P : Prop) (s : Shared) (v : Bool) (s' : Shared) : Prop := (v = true ↔ P) ∧ ∃ tk', s' = { s with toks := tk' }
section
variable {M : Model} {A : Around} {Q : Bool → Shared → Prop} {E : Value → Shared → Prop} {s : Shared} {e e2 : PySem.Expr} {c : List PySem.Expr} {p p2 pos : Pos} {x y : Str} {env : Env} {whole : Sem Value}
theorem cut_tr {t : Sem Bool} (P : Prop) (h : wpAny M A t (TrIs P s) E s) (k1 : P → ∀ tk', Q true { s with toks := tk' }) (k0 : ¬ P → ∀ tk', Q false { s with toks := tk' }) : wpAny M A t Q E s :=
  wpAny_mono h (fun v s' ⟨e, tk', es⟩ => by
    subst es
    cases v with
    | true => exact k1 (e.mp rfl) tk'
    | false => exact k0 (fun hp => Bool.noConfusion (e.mpr hp)) tk') fun _ _ e => e
theorem stand1 (h : Hold (wpAny M A (isTrue (.BoolOp .And [.Compare e [.GtE] c p, e2] pos) env whole) Q E s)) : wpAny M A (isTrue (.BoolOp .And [.Compare e [.GtE] c p, e2] pos) env whole) Q E s := h
theorem stand2 (h : Hold (wpAny M A (isTrue (.BoolOp .And [.Name x p, .Name y p2] pos) env whole) Q E s)) : wpAny M A (isTrue (.BoolOp .And [.Name x p, .Name y p2] pos) env whole) Q E s := h
theorem cut1 (P : Prop) (h : wpAny M A (isTrue (.Compare e [.GtE] c p) env (eval (.Compare e [.GtE] c p) env)) (fun c s' => if c then wpAny M A (isTrue (.BoolOp .And [e2] pos) env whole) (TrIs P s) E s' else TrIs P s false s') E s) (k1 : P → ∀ tk', Q true { s with toks := tk' }) (k0 : ¬ P → ∀ tk', Q false { s with toks := tk' }) :
    Hold (wpAny M A (isTrue (.BoolOp .And [.Compare e [.GtE] c p, e2] pos) env whole) Q E s) := cut_tr P (isTrue_and h) k1 k0
theorem cut2 (P : Prop) (h : wpAny M A (isTrue (.Name x p) env (eval (.Name x p) env)) (fun c s' => if c then wpAny M A (isTrue (.BoolOp .And [.Name y p2] pos) env whole) (TrIs P s) E s' else TrIs P s false s') E s) (k1 : P → ∀ tk', Q true { s with toks := tk' }) (k0 : ¬ P → ∀ tk', Q false { s with toks := tk' }) :
    Hold (wpAny M A (isTrue (.BoolOp .And [.Name x p, .Name y p2] pos) env whole) Q E s) := cut_tr P (isTrue_and h) k1 k0
end
local macro_rules | `(tactic| walk_at "isTrue BoolOp") => `(tactic| first | with_reducible refine stand1 ?_ | with_reducible refine stand2 ?_)
set_option maxHeartbeats 2000000 in
theorem ct_a2b (W : Wd) (st : Bool) (b : Array UInt8) (tb : Tok) (ks : List Int) (hks : KBw.bInts b = ks) (hl : ks.length ≤ 100) : CtE W 2 183 [.bytes b tb] [(Str.ofString "strict_mode", .bool st)] ((a2b st ks).map fun o t => .bytes (byteArr o) t) raErr := by
  intro dp un gd cn cs a ccd cl outer A₀ base h₀ L m s Q E B F X T hk XB TB D hdp hun hret herr
  walk_at "MYFILL"
  refine wpAny_call ?_
  k_dflt (refine' code_def0 (binds := [(Str.ofString "data", .bytes b tb), (Str.ofString "strict_mode", .bool st)]) ?k1 ?k2 ?k3 ?k5 ?kA ?kF ?kK ?k6 ?k7 ?k8 ?k9 ?kB ?_ ?c2 ?c3 ?c4 ?c5; (case kA => exact rfl); (case kF => exact rfl); (case kK => assumption); (case k1 => k_asm); (case k2 => k_asm); (case k3 => k_asm); (case k5 => k_asm); (case k6 => k_is); (case k7 => k_is); (case k8 => walk_at "MYROOM"); (case k9 => first | exact BindsTo.of_eq rfl | exact binds_K (X.keeps F.keep) rfl (by k_is) rfl rfl rfl | (refine' kp_binds ?kx ?ke; (case kx => exact X.keeps F.keep); (case ke => exact fun _ => rfl))); (case c5 => decide); (case kB => exact locs rfl); (case c2 => exact rfl); (case c3 => exact rfl); (case c4 => exact rfl); k_whole; intro L1 h1 F1 N1 B1 X1 T1; (try dsimp only [List.reverse_cons, List.reverse_nil, List.nil_append, List.cons_append, List.append_eq] at F1); (try dsimp only); (try k_fold))
  have D1 := dicts_push (env := envX cn cs L a ccd cl) D F rfl
  k_steps
  refine Hold.mk ?_
  rename News _ _ _ _ => nE9
  rename Fr _ _ _ _ => fE9
  refine loop_bytes (σ := StA) StA.vs StA.k (fun c => [(Str.ofString "quad_pos", .int c.q c.t1), (Str.ofString "leftchar", .int c.lc c.t2), (Str.ofString "pads", .int c.pads c.t3), (Str.ofString "i", .int c.i c.t4)]) [Str.ofString "this_ch"] (InvA st) ⟨[], 0, 0, 0, 0, 0, _, _, _, _⟩ hks rfl fE9 nE9 rfl (List.forall_mem_cons.2 ⟨rfl, List.forall_mem_cons.2 ⟨rfl, List.forall_mem_cons.2 ⟨rfl, List.forall_mem_cons.2 ⟨rfl, fun _ h => nomatch h⟩⟩⟩⟩) invA0 ?_ ?_
  · intro c pre post n t u h tk own hn h0 h256 hoff hI FB NB
    have hpl : pre.length < ks.length := by rw [hn]; simp
    have hpr : ∀ c ∈ pre, 0 ≤ c ∧ c < 256 := fun c hc => KBw.ints_in (b := b) (by rw [hks, hn]; exact List.mem_append_left _ hc)
    clear fE9 nE9
    obtain ⟨vs, k, q, lc, pads, i, t1, t2, t3, t4⟩ := c
    obtain ⟨hq, hc0, hp0, hp1, hi0, hi1, hvl⟩ := invA_facts hpr hI
    have hv := b64v_range h0 h256
    dsimp only at *
    k_steps
    any_goals first
      | (with_reducible refine cut1 (2 ≤ q ∧ q + (pads + 1) ≤ 4) ?ka ?kb ?kc
         (case ka => k_steps; all_goals exact ⟨by (simp; try omega), _, rfl⟩)
         (case' kb => intro hb9 tk9; (try dsimp only); k_steps)
         (case' kc => intro hb9 tk9; (try dsimp only); k_steps))
      | (with_reducible refine cut2 (pads ≠ 0 ∧ st = true) ?la ?lb ?lc
         (case la =>
           k_steps
           all_goals first
             | exact ⟨⟨fun _ => ⟨by with_reducible assumption, by with_reducible assumption⟩, fun _ => rfl⟩, _, rfl⟩
             | exact ⟨⟨fun hv => (nomatch hv), fun hv => absurd (show pads = 0 by with_reducible assumption) hv.1⟩, _, rfl⟩
             | exact ⟨⟨fun hv => (nomatch hv), fun hv => absurd ((show st = false by with_reducible assumption).symm.trans hv.2) (by decide)⟩, _, rfl⟩)
         (case' lb => intro hb9 tk9; (try dsimp only); k_steps)
         (case' lc => intro hb9 tk9; (try dsimp only); k_steps))
    all_goals first
      | (refine Hold.out (Hold.mk ?_); rename News _ _ _ _ => nE; rename Fr _ _ _ _ => fE; (try simp only [List.push_toArray] at nE); refine loop_end ⟨_, _, _, _, _, _, _, _, _, _⟩ fE nE (List.Mem.head _) (fun p hp => List.Mem.tail _ hp) (by kst_all) (by walk_at "MYSAME") ?_;
          first
          | (have a1 : n = 61 := by with_reducible assumption
             exact invA_61 hI a1 (by first | (refine .inr ?_; with_reducible assumption) | (refine .inl ?_; with_reducible assumption)))
          | (have a1 : n ≠ 61 := by with_reducible assumption
             have a2 : 64 ≤ b64v n := by with_reducible assumption
             exact invA_skip hI a1 a2 (by with_reducible assumption))
          | (have a1 : n ≠ 61 := by with_reducible assumption
             have a2 : ¬ 64 ≤ b64v n := by with_reducible assumption
             have a3 : ¬ (pads ≠ 0 ∧ st = true) := by with_reducible assumption
             first
             | (have a5 : q = 0 := (by with_reducible assumption); exact invA_q0 hI a1 a2 a3 a5)
             | (have a5 : q = 1 := (by with_reducible assumption); exact invA_q1 hI a1 a2 a3 a5 hc0 hv)
             | (have a5 : q = 2 := (by with_reducible assumption); exact invA_q2 hI a1 a2 a3 a5 hc0 hv)
             | exact invA_q3 hI a1 a2 a3 (by with_reducible assumption) (by with_reducible assumption) (by with_reducible assumption) hc0 hv))
      | (rename RaisedS _ _ _ _ _ _ _ _ _ => hRS; rename Heap.UpToSlots _ _ => hUS; refine cte_errE herr ?_ hRS hUS;
         rw [Option.map_eq_none_iff];
         first
          | (have a1 : n = 61 := by with_reducible assumption
             exact invA_r61 hI hn a1 (by with_reducible assumption) (by with_reducible assumption))
          | (have a1 : n ≠ 61 := by with_reducible assumption
             have a2 : 64 ≤ b64v n := by with_reducible assumption
             exact invA_rv hI hn a1 a2 (by with_reducible assumption))
          | (have a1 : n ≠ 61 := by with_reducible assumption
             have a2 : ¬ 64 ≤ b64v n := by with_reducible assumption
             have a3 : pads ≠ 0 ∧ st = true := by with_reducible assumption
             exact invA_rp hI hn a1 a2 a3.1 a3.2))
  · intro c u h tk hI FB NB
    clear fE9 nE9
    have hpr : ∀ c ∈ ks, 0 ≤ c ∧ c < 256 := fun c hc => KBw.ints_in (b := b) (by rw [hks]; exact hc)
    obtain ⟨vs, k, q, lc, pads, i, t1, t2, t3, t4⟩ := c
    obtain ⟨hq, hc0, hp0, hp1, hi0, hi1, hvl⟩ := invA_facts hpr hI
    dsimp only at *
    k_steps
    all_goals first
      | (rename RaisedS _ _ _ _ _ _ _ _ _ => hRS
         rename Heap.UpToSlots _ _ => hUS
         refine cte_errE herr ?_ hRS hUS
         rw [Option.map_eq_none_iff]
         first
         | (have a1 : q = 1 := (by with_reducible assumption)
            exact invA_e1 hI (.inl a1))
         | (have a1 : q ≠ 0 := (by with_reducible assumption)
            have a2 : q + pads < 4 := (by with_reducible assumption)
            exact invA_e1 hI (.inr ⟨a1, a2⟩)))
      | (have a1 : q ≠ 1 := (by with_reducible assumption)
         have a2 : ¬ (q ≠ 0 ∧ q + pads < 4) := by
           first
           | (have a3 : q = 0 := (by with_reducible assumption)
              exact fun hh => hh.1 a3)
           | (have a3 : ¬ (q + pads < 4) := (by with_reducible assumption)
              exact fun hh => a3 hh.2)
         obtain ⟨ns, e1, e2⟩ := invA_e0 hI a1 a2
         obtain ⟨e3, e4⟩ := a2b_in hpr e1
         refine Hold.mk ?_
         rename News _ _ _ _ => nE
         rename Fr _ _ _ _ => fE
         refine KBa.make_K fE nE rfl ⟨_, (nE _ (.head _)).1, rfl, _, rfl⟩ e2 e3 (by omega) ?_
         intro h' t' k' F9 N9 _
         k_steps
         exact cte_ret hret _ (by rw [e1]; rfl) t' rfl (by assumption))
end
section

/-! ## characters: the ints of a text -/
noncomputable def Ch (l : List Int) : Prop := ∀ c ∈ l, 0 ≤ c ∧ c < 128
noncomputable def tx (l : List Int) : Str := ⟨(l.map Int.toNat).toArray⟩
theorem Ch.in {l : List Int} (h : Ch l) : KBa.In l := fun c hc => ⟨(h c hc).1, by have := (h c hc).2; omega⟩
theorem tx_lt {l : List Int} (h : Ch l) : ∀ c ∈ (tx l).cps, c < 128 := by
  intro c hc
  simp only [tx, List.mem_toArray, List.mem_map] at hc
  obtain ⟨i, hi, rfl⟩ := hc
  have := h i hi
  omega
theorem tx_size (l : List Int) : (tx l).cps.size = l.length := by simp [tx]
theorem tx_enc (l : List Int) : (tx l).cps.map Nat.toUInt8 = byteArr l := by simp [tx, byteArr]
theorem byteArr_lt {l : List Int} (h : Ch l) : ∀ c ∈ byteArr l, c.toNat < 128 := by
  intro c hc
  simp only [byteArr, List.mem_toArray, List.mem_map] at hc
  obtain ⟨i, hi, rfl⟩ := hc
  have := h i hi
  have e : (i.toNat.toUInt8).toNat = i.toNat % 256 := by simp
  omega
theorem byteArr_dec {l : List Int} (h : Ch l) : (⟨(byteArr l).map UInt8.toNat⟩ : Str) = tx l := by
  unfold tx byteArr
  congr 1
  simp only [List.map_toArray, List.map_map]
  congr 1
  apply List.map_congr_left
  intro i hi
  have := h i hi
  simp
  omega
/-- a table of two signs -/
noncomputable def trC (f0 f1 t0 t1 : Int) (c : Int) : Int := if c = f1 then t1 else if c = f0 then t0 else c
theorem mkTab_get (f0 f1 t0 t1 c : UInt8) : (mkTab #[f0, f1] #[t0, t1]).getD c.toNat c = if c = f1 then t1 else if c = f0 then t0 else c := by
  have hc := c.toNat_lt
  have h0 := f0.toNat_lt
  have h1 := f1.toNat_lt
  unfold mkTab
  simp only [List.zip_cons_cons, List.zip_nil_left, List.foldl_cons, List.foldl_nil]
  rw [Array.getD_eq_getD_getElem?, Array.getElem?_setIfInBounds, Array.getElem?_setIfInBounds]
  have e1 : (f1.toNat = c.toNat) = (c = f1) := by rw [UInt8.toNat_inj]; exact propext eq_comm
  have e0 : (f0.toNat = c.toNat) = (c = f0) := by rw [UInt8.toNat_inj]; exact propext eq_comm
  simp only [e1, e0, Array.size_setIfInBounds, Array.size_map, Array.size_range]
  by_cases a1 : c = f1
  · rw [if_pos a1, if_pos a1, if_pos (by rw [← a1]; exact hc)]; rfl
  · rw [if_neg a1, if_neg a1]
    by_cases a0 : c = f0
    · rw [if_pos a0, if_pos a0, if_pos (by rw [← a0]; exact hc)]; rfl
    · rw [if_neg a0, if_neg a0]
      simp only [Array.getElem?_map, Array.getElem?_range, hc]
      simp
theorem tr_bytes {l : List Int} (h : KBa.In l) (f0 f1 t0 t1 : UInt8) : (byteArr l).map (fun c => (mkTab #[f0, f1] #[t0, t1]).getD c.toNat c) = byteArr (l.map (trC f0.toNat f1.toNat t0.toNat t1.toNat)) := by
  unfold byteArr
  simp only [mkTab_get, List.map_toArray, List.map_map]
  congr 1
  apply List.map_congr_left
  intro i hi
  obtain ⟨a, b⟩ := h i hi
  have q : ∀ f : UInt8, (i.toNat.toUInt8 = f) = (i = (f.toNat : Int)) := fun f => propext ⟨fun e => by
    have := congrArg UInt8.toNat e
    simp at this
    omega, fun e => by
    apply UInt8.toNat_inj.mp
    simp
    omega⟩
  have z : ∀ f : UInt8, ((f.toNat : Int).toNat).toUInt8 = f := fun f => by simp
  simp only [Function.comp, q, trC]
  split
  · exact (z _).symm
  · split
    · exact (z _).symm
    · rfl
theorem trC_ch {l : List Int} (h : Ch l) {f0 f1 t0 t1 : Int} (h0 : 0 ≤ t0 ∧ t0 < 128) (h1 : 0 ≤ t1 ∧ t1 < 128) : Ch (l.map (trC f0 f1 t0 t1)) := by
  intro c hc
  obtain ⟨i, hi, rfl⟩ := List.mem_map.mp hc
  unfold trC
  split
  · exact h1
  · split
    · exact h0
    · exact h i hi
noncomputable def b2a (l : List Int) : List Int := b2aEnd (b2aRun l)
theorem b2a_ch (l : List Int) : Ch (b2a l) := (b2aEnd_good l).1
theorem b2a_len (l : List Int) : (b2a l).length ≤ 2 * l.length + 3 := (b2aEnd_good l).2
end
local macro_rules | `(tactic| walk_at "call ref") => `(tactic| ((with_reducible refine atR 183 ?_); k_dflt (walk_at "MYUE"; (case' kC => refine' ct_a2b _ _ _ _ _ ?kh0 ?kh1); walk_at "MYCTE"; walk_at "MYH2"); walk_at "MYTLE"))
local macro_rules | `(tactic| walk_at "call ref") => `(tactic| ((with_reducible refine atR 191 ?_); k_dflt (walk_at "MYU0"; (case' kC => refine' ct_b2a _ _ _ _ ?kh0 ?kh1); walk_at "MYCT0"; walk_at "MYH2"); walk_at "MYTL0"))
section
theorem ints2 (a0 a1 : UInt8) : KBw.bInts #[a0, a1] = [(a0.toNat : Int), (a1.toNat : Int)] := KBw.ints_list _
set_option maxHeartbeats 2000000 in
theorem ct_b64enc (W : Wd) (ks : List Int) (tb ta : Tok) (a0 a1 : UInt8) (hr : KBa.In ks) (hl : ks.length ≤ 40) (h0 : a0.toNat < 128) (h1 : a1.toNat < 128) :
    Ct0 W 3 199 [.bytes (byteArr ks) tb, .bytes #[a0, a1] ta] [] (fun _ => True) (fun t => .bytes (byteArr ((b2a ks).map (trC 43 47 a0.toNat a1.toNat))) t) := by
  intro dp un gd cn cs a ccd cl outer A₀ base h₀ L m s Q E B F X T hk hpre hdp hun hret
  walk_at "MYFILL"
  refine wpAny_call ?_
  k_dflt (refine' code_def0 (binds := [(Str.ofString "s", .bytes (byteArr ks) tb), (Str.ofString "altchars", .bytes #[a0, a1] ta)]) ?k1 ?k2 ?k3 ?k5 ?kA ?kF ?kK ?k6 ?k7 ?k8 ?k9 ?kB ?_ ?c2 ?c3 ?c4 ?c5; (case kA => exact rfl); (case kF => exact rfl); (case kK => assumption); (case k1 => k_asm); (case k2 => k_asm); (case k3 => k_asm); (case k5 => k_asm); (case k6 => k_is); (case k7 => k_is); (case k8 => walk_at "MYROOM"); (case k9 => first | exact BindsTo.of_eq rfl | exact binds_K (X.keeps F.keep) rfl (by k_is) rfl rfl rfl | (refine' kp_binds ?kx ?ke; (case kx => exact X.keeps F.keep); (case ke => exact fun _ => rfl))); (case c5 => decide); (case kB => exact locs rfl); (case c2 => exact rfl); (case c3 => exact rfl); (case c4 => exact rfl); k_whole; intro L1 h1 F1 N1 B1 X1 T1; (try dsimp only [List.reverse_cons, List.reverse_nil, List.nil_append, List.cons_append, List.append_eq] at F1); (try dsimp only); (try k_fold))
  have hks := KBa.ints_make hr
  have ha := ints2 a0 a1
  have hbl := b2a_len ks
  have hbi := (b2a_ch ks).in
  have hbk := KBa.ints_make hbi
  have hbs : (byteArr (b2aEnd (b2aRun ks))).size ≤ 16777216 := by rw [byteArr_size]; unfold b2a at hbl; omega
  k_steps
  · exact ct_ret hret _ (congrArg (fun x => Value.bytes x _) (tr_bytes hbi 43 47 a0 a1)) (by assumption)
  · exact absurd (show ((([(a0.toNat : Int), (a1.toNat : Int)] : List Int).length : Nat) : Int) = 2 from rfl) (by assumption)
set_option maxHeartbeats 2000000 in
theorem ct_b64dec (W : Wd) (st : Bool) (l : List Int) (tt ta : Tok) (a0 a1 : UInt8) (hc : Ch l) (hl : l.length ≤ 100) (h0 : a0.toNat < 128) (h1 : a1.toNat < 128) :
    CtE W 3 207 [.str (tx l) tt, .bytes #[a0, a1] ta, .bool st] [] ((a2b st (l.map (trC a0.toNat a1.toNat 43 47))).map fun o t => .bytes (byteArr o) t) raErr := by
  intro dp un gd cn cs a ccd cl outer A₀ base h₀ L m s Q E B F X T hk XB TB D hdp hun hret herr
  walk_at "MYFILL"
  refine wpAny_call ?_
  k_dflt (refine' code_def0 (binds := [(Str.ofString "s", .str (tx l) tt), (Str.ofString "altchars", .bytes #[a0, a1] ta), (Str.ofString "validate", .bool st)]) ?k1 ?k2 ?k3 ?k5 ?kA ?kF ?kK ?k6 ?k7 ?k8 ?k9 ?kB ?_ ?c2 ?c3 ?c4 ?c5; (case kA => exact rfl); (case kF => exact rfl); (case kK => assumption); (case k1 => k_asm); (case k2 => k_asm); (case k3 => k_asm); (case k5 => k_asm); (case k6 => k_is); (case k7 => k_is); (case k8 => walk_at "MYROOM"); (case k9 => first | exact BindsTo.of_eq rfl | exact binds_K (X.keeps F.keep) rfl (by k_is) rfl rfl rfl | (refine' kp_binds ?kx ?ke; (case kx => exact X.keeps F.keep); (case ke => exact fun _ => rfl))); (case c5 => decide); (case kB => exact locs rfl); (case c2 => exact rfl); (case c3 => exact rfl); (case c4 => exact rfl); k_whole; intro L1 h1 F1 N1 B1 X1 T1; (try dsimp only [List.reverse_cons, List.reverse_nil, List.nil_append, List.cons_append, List.append_eq] at F1); (try dsimp only); (try k_fold))
  have D1 := dicts_push (env := envX cn cs L a ccd cl) D F rfl
  have ha := ints2 a0 a1
  have hx1 := tx_lt hc
  have hx2 : (tx l).cps.size ≤ 16777216 := by rw [tx_size]; omega
  have hx3 : ((tx l).cps.map Nat.toUInt8).size ≤ 16777216 := by rw [Array.size_map]; exact hx2
  have hx4 : KBw.bInts (((tx l).cps.map Nat.toUInt8).map fun c => (mkTab #[a0, a1] #[43, 47]).getD c.toNat c) = l.map (trC a0.toNat a1.toNat 43 47) := by
    rw [tx_enc, tr_bytes hc.in]
    exact KBa.ints_make (trC_ch hc (by decide) (by decide)).in
  have hx5 : (l.map (trC a0.toNat a1.toNat 43 47)).length ≤ 100 := by rw [List.length_map]; exact hl
  k_steps
  · rename GOk _ _ => hg
    rename a2b _ _ = some _ => ho
    refine hret _ (by rw [ho]; rfl) _ _ _ _ ?_ hg
    rename Fr _ _ _ _ => hF
    have hF := (by assumption : Fr s.heap L1 _ _)
    exact hF.keep
  · rename RaisedS _ _ _ _ _ _ _ _ _ => hRS
    rename Heap.UpToSlots _ _ => hUS
    refine cte_errE herr ?_ hRS hUS
    assumption
  · exact absurd (show ((([(a0.toNat : Int), (a1.toNat : Int)] : List Int).length : Nat) : Int) = 2 from rfl) (by assumption)
end
local macro_rules | `(tactic| walk_at "pyIter ref") => `(tactic| (refine Hold.out ?_))
local macro_rules | `(tactic| walk_at "MYFOR") => `(tactic| (k_here; (rename Fr _ _ _ _ => lF'); (with_unfolding_all refine' For_invVF lF' ?k1 ?k2 ?_; (case k1 => exact rfl); (case k2 => exact rfl); k_whole)))
section
theorem pow_facts (b : Int) (k : Nat) (hb : b = 2 ∨ b = 64 ∨ b = 256) (hk : k ≤ 60) : b ^ k ≠ 0 ∧ (b ^ k).natAbs.log2 < 9000 := by
  have h1 : b ≠ 0 := by rcases hb with rfl | rfl | rfl <;> decide
  refine ⟨fun h => ?_, ?_⟩
  · have : ∀ k : Nat, b ^ k ≠ 0 := fun k => by
      induction k with
      | zero => rw [Int.pow_zero]; decide
      | succ k ih => rw [Int.pow_succ]; exact Int.mul_ne_zero ih h1
    exact this k h
  · have h2 : (b ^ k).natAbs ≤ 256 ^ 60 := by
      rw [Int.natAbs_pow]
      refine Nat.le_trans (Nat.pow_le_pow_left (m := 256) ?_ k) (Nat.pow_le_pow_right (by decide) hk)
      rcases hb with rfl | rfl | rfl <;> decide
    by_cases h0 : (b ^ k).natAbs = 0
    · rw [h0]; decide
    · rw [Nat.log2_lt h0]
      exact Nat.lt_of_le_of_lt h2 (by decide +kernel)
end
local macro_rules | `(tactic| walk_at "MYPOW") => `(tactic| first | exact (pow_facts _ _ (by decide) (by omega)).1 | exact (pow_facts _ _ (by decide) (by omega)).2)
local macro_rules | `(tactic| walk_at "inplaceOp FloorDiv int int") => `(tactic| (k_here; (with_reducible show wpAny _ _ (inplaceOp _ (Value.int _ _) (Value.int (HPow.hPow _ _) _)) _ _ _); (with_reducible refine ifloordiv_int ?kb ?_ (Or.inl (PyProof.noPylong_of_log2 ?kp))); (case kb => walk_at "MYPOW"); (case kp => walk_at "MYPOW")))
local macro_rules | `(tactic| walk_at "binaryOp FloorDiv int int") => `(tactic| (k_here; (with_reducible show wpAny _ _ (binaryOp _ (Value.int _ _) (Value.int (HPow.hPow _ _) _)) _ _ _); (with_reducible refine floordiv_int ?kb ?_ (Or.inl (PyProof.noPylong_of_log2 ?kp))); (case kb => walk_at "MYPOW"); (case kp => walk_at "MYPOW")))
section
noncomputable def v64 (l : List Int) : Int := l.foldl (fun v n => v * 64 + n) 0
theorem v64_snoc (l : List Int) (n : Int) : v64 (l ++ [n]) = v64 l * 64 + n := by simp [v64]
theorem v64_range (l : List Int) (hr : ∀ c ∈ l, 0 ≤ c ∧ c < 64) : 0 ≤ v64 l ∧ v64 l < 64 ^ l.length := by
  have : ∀ (l : List Int) (v : Int) (k : Nat), (∀ c ∈ l, 0 ≤ c ∧ c < 64) → 0 ≤ v → v < 64 ^ k → 0 ≤ l.foldl (fun v n => v * 64 + n) v ∧ l.foldl (fun v n => v * 64 + n) v < 64 ^ (k + l.length) := by
    intro l
    induction l with
    | nil => intro v k _ h0 h1; exact ⟨h0, h1⟩
    | cons n l ih =>
      intro v k hr h0 h1
      have hn := hr n (.head _)
      have := ih (v * 64 + n) (k + 1) (fun c hc => hr c (.tail _ hc)) (by omega) (by rw [Int.pow_succ]; omega)
      rw [List.foldl_cons, List.length_cons, show k + (l.length + 1) = k + 1 + l.length by omega]
      exact this
  have := this l 0 0 hr (by decide) (by decide)
  rw [Nat.zero_add] at this
  exact this
noncomputable def octets (ns : List Int) : List Int := ((rangeKs 0 (Int.toNat (Int.fdiv ((ns.length : Int) * 3) 4 - 0))).map fun k => Int.fmod (Int.fdiv (Int.fdiv (v64 ns) (2 ^ Int.toNat (Int.fmod (-2 * (ns.length : Int)) 8))) (256 ^ Int.toNat k)) 256).reverse
theorem octets_in (ns : List Int) : KBa.In (octets ns) := by
  intro c hc
  unfold octets at hc
  rw [List.mem_reverse] at hc
  obtain ⟨k, _, rfl⟩ := List.mem_map.mp hc
  rw [Int.fmod_eq_emod_of_nonneg _ (by decide)]
  exact ⟨Int.emod_nonneg _ (by decide), Int.emod_lt_of_pos _ (by decide)⟩
theorem octets_len (ns : List Int) : (octets ns).length = ns.length * 3 / 4 := by
  unfold octets
  rw [List.length_reverse, List.length_map, rangeKs_length, Int.fdiv_eq_ediv_of_nonneg _ (by decide)]
  omega
noncomputable def CellV (c : Addr) (P : Int → Prop) (nx : Led) : Prop := ∃ o v t, nx = [(c, o)] ∧ o.data = .cell (some (.int v t)) ∧ P v
set_option maxHeartbeats 2000000 in
theorem ct_octets (W : Wd) (l : Addr) (vs : List Value) (ns : List Int) (hi : IntsAre vs ns) (hl : ns.length ≤ 30) (hr : ∀ c ∈ ns, 0 ≤ c ∧ c < 64) : Ct0 W 1 212 [.ref l] [] (fun h => h.IsList l vs.toArray) (fun t => .bytes (byteArr (octets ns)) t) := by
  intro dp un gd cn cs a ccd cl outer A₀ base h₀ L m s Q E B F X T hk hpre hdp hun hret
  walk_at "MYFILL"
  refine wpAny_call ?_
  k_dflt (refine' code_defC0 (binds := [(Str.ofString "figures", .ref l)]) ?k1 ?k2 ?k3 ?k5 ?kA ?kF ?kK ?k6 ?k7 ?k8 ?k9 ?kB ?kD ?_ ?c2 ?c3 ?c4; (case kA => exact rfl); (case kF => exact rfl); (case kK => assumption); (case k1 => k_asm); (case k2 => k_asm); (case k3 => k_asm); (case k5 => k_asm); (case k6 => k_is); (case k7 => k_is); (case k8 => walk_at "MYROOM"); (case k9 => first | exact BindsTo.of_eq rfl | exact binds_K (X.keeps F.keep) rfl (by k_is) rfl rfl rfl | (refine' kp_binds ?kx ?ke; (case kx => exact X.keeps F.keep); (case ke => exact fun _ => rfl))); (case kB => exact rfl); (case kD => decide +kernel); (case c2 => exact rfl); (case c3 => exact rfl); (case c4 => exact rfl); k_whole; intro L1 h1 tk1 cells1 F1 N1 Y1 B1 X1 T1; k_cells Y1; (try simp only [List.cons_append, List.nil_append] at N1); (try dsimp only); (try k_fold))
  k_steps
  walk_at "MYFOR"
  k_steps
  refine Hold.mk ?_
  rename News _ _ _ _ => nE
  rename Fr _ _ _ _ => fE
  rename Obj.data _ = Data.cell (some (.int 0 _)) => dE
  refine iter_invN (fun i m' nx => CellV (L1 + 1) (fun v => v = v64 (ns.take i)) nx ∧ (∀ z, z ≠ Str.ofString "figure" → m' z = if z = Str.ofString "figures" then some (.ref l) else none)) rfl hpre hi fE nE ⟨⟨_, _, _, rfl, dE, by simp [v64]⟩, ?_⟩ ?_ ?_
  · intro z hz
    show (if z = Str.ofString "figures" then some (Value.ref l) else none) = _
    rfl
  · rintro i n t m₁ nx h tk own hn hnx hoff ⟨⟨o, v, tv, rfl, od, rfl⟩, hm⟩ FB NB
    clear fE nE dE
    k_steps
    rename News _ _ _ _ => nE
    rename Fr _ _ _ _ => fE
    rename Obj.data _ = Data.cell (some (.int _ _)) => dE
    refine InvEndN.intro fE nE ⟨⟨_, _, _, rfl, dE, ?_⟩, ?_⟩ rfl (by intro p hp; rw [List.mem_singleton.mp hp]; exact .head _) (fun p hp => .tail _ hp)
    · rw [← v64_snoc]
      congr 1
      rw [List.take_add_one, hn]; rfl
    · intro z hz
      simp only [if_neg hz]
      exact hm z hz
  · rintro m₁ nx h tk ⟨⟨o, v, tv, rfl, od, rfl⟩, hm⟩ FB NB
    clear fE nE dE
    rw [List.take_length] at od
    have em : m₁ = fun y => if y = Str.ofString "figure" then m₁ (Str.ofString "figure") else if y = Str.ofString "figures" then some (.ref l) else none := by
      funext y
      by_cases hy : y = Str.ofString "figure"
      · rw [if_pos hy, hy]
      · rw [if_neg hy]; exact hm y hy
    rw [em] at FB
    have hv := v64_range ns hr
    have hfm : 0 ≤ Int.fmod (-2 * (ns.length : Int)) 8 ∧ Int.fmod (-2 * (ns.length : Int)) 8 < 8 := ⟨by rw [Int.fmod_eq_emod_of_nonneg _ (by decide)]; exact Int.emod_nonneg _ (by decide), Int.fmod_lt_of_pos _ (by decide)⟩
    have hfd : Int.fdiv ((ns.length : Int) * 3) 4 ≤ 23 ∧ 0 ≤ Int.fdiv ((ns.length : Int) * 3) 4 := by rw [Int.fdiv_eq_ediv_of_nonneg _ (by decide)]; omega
    k_steps
    refine Hold.mk ?_
    rename News _ _ _ _ => nE
    rename Fr _ _ _ _ => fE
    refine KBa.make_K fE nE rfl ⟨_, (nE _ (.head _)).1, rfl, _, rfl⟩ (by assumption : IntsAre _ (octets ns)) (octets_in ns) (by rw [octets_len]; omega) ?_
    intro h' t' k' F9 N9 _
    k_steps
    exact ct_ret hret _ rfl (by assumption)
end
section

noncomputable def v256 (l : List Int) : Int := l.foldl (fun v n => v * 256 + n) 0
theorem v256_snoc (l : List Int) (n : Int) : v256 (l ++ [n]) = v256 l * 256 + n := by simp [v256]
noncomputable def figCount (n : Nat) : Int := Int.fdiv ((n : Int) * 4 + 2) 3
noncomputable def figures (ks : List Int) : List Int := ((rangeKs 0 (Int.toNat (figCount ks.length - 0))).map fun k => Int.fmod (Int.fdiv (v256 ks * 2 ^ Int.toNat (figCount ks.length * 6 - (ks.length : Int) * 8)) (64 ^ Int.toNat k)) 64).reverse
local macro_rules | `(tactic| walk_at "inplaceOp Mult int int") => `(tactic| (k_here; (with_reducible refine imul_int ?_ (by assumption))))
set_option maxHeartbeats 2000000 in
theorem ct_figures (W : Wd) (ks : List Int) (tb : Tok) (hr : KBa.In ks) (hl : ks.length ≤ 40) :
    CtN W 1 217 [.bytes (byteArr ks) tb] [] (fun _ => True) (fun o => ∃ vs n, o = PySem.W.listOf (List.toArray vs) n ∧ IntsAre vs (figures ks)) := by
  intro dp un gd cn cs a ccd cl outer A₀ base h₀ L m s Q E B F X T hk hpre hdp hun hret
  walk_at "MYFILL"
  refine wpAny_call ?_
  k_dflt (refine' code_defC0 (binds := [(Str.ofString "row", .bytes (byteArr ks) tb)]) ?k1 ?k2 ?k3 ?k5 ?kA ?kF ?kK ?k6 ?k7 ?k8 ?k9 ?kB ?kD ?_ ?c2 ?c3 ?c4; (case kA => exact rfl); (case kF => exact rfl); (case kK => assumption); (case k1 => k_asm); (case k2 => k_asm); (case k3 => k_asm); (case k5 => k_asm); (case k6 => k_is); (case k7 => k_is); (case k8 => walk_at "MYROOM"); (case k9 => first | exact BindsTo.of_eq rfl | exact binds_K (X.keeps F.keep) rfl (by k_is) rfl rfl rfl | (refine' kp_binds ?kx ?ke; (case kx => exact X.keeps F.keep); (case ke => exact fun _ => rfl))); (case kB => exact rfl); (case kD => decide +kernel); (case c2 => exact rfl); (case c3 => exact rfl); (case c4 => exact rfl); k_whole; intro L1 h1 tk1 cells1 F1 N1 Y1 B1 X1 T1; k_cells Y1; (try simp only [List.cons_append, List.nil_append] at N1); (try dsimp only); (try k_fold))
  have hks := KBa.ints_make hr
  k_steps
  refine Hold.mk ?_
  rename News _ _ _ _ => nE
  rename Fr _ _ _ _ => fE
  rename Obj.data _ = Data.cell (some (.int 0 _)) => dE
  obtain ⟨mF, tc, fE', hF1, hF2⟩ : ∃ mF tc, Fr s.heap L1 _ mF ∧ mF (Str.ofString "count") = some (.int (figCount ks.length) tc) ∧ mF (Str.ofString "row") = some (.bytes (byteArr ks) tb) := ⟨_, _, fE, rfl, rfl⟩
  refine KBmo.iter_bytesN (fun i m' nx => CellV (L1 + 1) (fun v => v = v256 (ks.take i)) nx ∧ (∀ z, z ≠ Str.ofString "octet" → m' z = mF z)) hks rfl fE' nE ⟨⟨_, _, _, rfl, dE, by simp [v256]⟩, fun _ _ => rfl⟩ ?_ ?_
  · rintro i n t m₁ nx h tk own hn h0 h256 hoff ⟨⟨o, v, tv, rfl, od, rfl⟩, hm⟩ FB NB
    clear fE nE dE fE'
    k_steps
    rename News _ _ _ _ => nE
    rename Fr _ _ _ _ => fE
    rename Obj.data _ = Data.cell (some (.int _ _)) => dE
    refine InvEndN.intro fE nE ⟨⟨_, _, _, rfl, dE, ?_⟩, ?_⟩ rfl (by intro p hp; rw [List.mem_singleton.mp hp]; exact .head _) (fun p hp => .tail _ hp)
    · rw [← v256_snoc]
      congr 1
      rw [List.take_add_one, hn]; rfl
    · intro z hz
      simp only [if_neg hz]
      exact hm z hz
  · rintro m₁ nx h tk ⟨⟨o, v, tv, rfl, od, rfl⟩, hm⟩ FB NB
    clear fE nE dE fE'
    rw [List.take_length] at od
    have em : m₁ = fun y => if y = Str.ofString "octet" then m₁ (Str.ofString "octet") else if y = Str.ofString "count" then some (.int (figCount ks.length) tc) else if y = Str.ofString "row" then some (.bytes (byteArr ks) tb) else mF y := by
      funext y
      by_cases hy : y = Str.ofString "octet"
      · rw [if_pos hy, hy]
      · rw [if_neg hy, hm y hy]
        by_cases hy2 : y = Str.ofString "count"
        · rw [if_pos hy2, hy2, hF1]
        · rw [if_neg hy2]
          by_cases hy3 : y = Str.ofString "row"
          · rw [if_pos hy3, hy3, hF2]
          · rw [if_neg hy3]
    rw [em] at FB
    have hfc : figCount ks.length = ((ks.length * 4 + 2) / 3 : Nat) := by unfold figCount; rw [Int.fdiv_eq_ediv_of_nonneg _ (by decide)]; omega
    have hfb : 0 ≤ figCount ks.length ∧ figCount ks.length ≤ 54 ∧ 0 ≤ figCount ks.length * 6 - (ks.length : Int) * 8 ∧ figCount ks.length * 6 - (ks.length : Int) * 8 ≤ 6 := by omega
    have hmul : IntMulOk (v256 ks) (2 ^ Int.toNat (figCount ks.length * 6 - (ks.length : Int) * 8)) := by
      refine IntMulOk.of_right (intBits_le_64 ?_ ?_)
      all_goals (
        have h6 : Int.toNat (figCount ks.length * 6 - (ks.length : Int) * 8) = 0 ∨ Int.toNat (figCount ks.length * 6 - (ks.length : Int) * 8) = 1 ∨ Int.toNat (figCount ks.length * 6 - (ks.length : Int) * 8) = 2 ∨ Int.toNat (figCount ks.length * 6 - (ks.length : Int) * 8) = 3 ∨ Int.toNat (figCount ks.length * 6 - (ks.length : Int) * 8) = 4 ∨ Int.toNat (figCount ks.length * 6 - (ks.length : Int) * 8) = 5 ∨ Int.toNat (figCount ks.length * 6 - (ks.length : Int) * 8) = 6 := by omega
        rcases h6 with h | h | h | h | h | h | h <;> rw [h] <;> decide)
    k_steps
    rename News s.heap _ _ _ => nE
    rename Fr s.heap _ _ _ => fE
    rename _ < _ ∧ _ => hlt
    have hab := fE.above
    exact ct_retN hret ⟨_, 0, rfl, (by assumption : IntsAre _ (figures ks))⟩ fE nE (.head _) (by omega)
theorem figures_len (ks : List Int) : (figures ks).length = (ks.length * 4 + 2) / 3 := by
  unfold figures figCount
  rw [List.length_reverse, List.length_map, rangeKs_length, Int.fdiv_eq_ediv_of_nonneg _ (by decide)]
  omega
theorem figures_in (ks : List Int) : ∀ c ∈ figures ks, 0 ≤ c ∧ c < 64 := by
  intro c hc
  unfold figures at hc
  rw [List.mem_reverse] at hc
  obtain ⟨k, _, rfl⟩ := List.mem_map.mp hc
  rw [Int.fmod_eq_emod_of_nonneg _ (by decide)]
  exact ⟨Int.emod_nonneg _ (by decide), Int.emod_lt_of_pos _ (by decide)⟩
end
section
/-! ## the plain law -/
noncomputable def val (B : Int) (l : List Int) : Int := l.foldl (fun v n => v * B + n) 0
theorem val_snoc (B : Int) (l : List Int) (n : Int) : val B (l ++ [n]) = val B l * B + n := by simp [val]
theorem v64_val (l : List Int) : v64 l = val 64 l := rfl
theorem v256_val (l : List Int) : v256 l = val 256 l := rfl
noncomputable def digs (B v : Int) (n : Nat) : List Int := ((rangeKs 0 n).map fun k => Int.fmod (Int.fdiv v (B ^ Int.toNat k)) B).reverse
theorem snoc_ind {α : Type} {P : List α → Prop} (h0 : P []) (h1 : ∀ l x, P l → P (l ++ [x])) (l : List α) : P l := by
  have : ∀ r : List α, P r.reverse := by
    intro r
    induction r with
    | nil => exact h0
    | cons a r ih => rw [List.reverse_cons]; exact h1 _ _ ih
  have h := this l.reverse
  rwa [List.reverse_reverse] at h
theorem fdiv_fdiv_pos (v B C : Int) (hB : 0 < B) (hC : 0 < C) : Int.fdiv v (B * C) = Int.fdiv (Int.fdiv v B) C := by
  rw [Int.fdiv_eq_ediv_of_nonneg _ (Int.le_of_lt hB), Int.fdiv_eq_ediv_of_nonneg _ (Int.le_of_lt hC), Int.fdiv_eq_ediv_of_nonneg _ (Int.le_of_lt (Int.mul_pos hB hC)), Int.ediv_ediv_of_nonneg (Int.le_of_lt hB)]
theorem digs_succ (B v : Int) (hB : 0 < B) (n : Nat) : digs B v (n + 1) = digs B (Int.fdiv v B) n ++ [Int.fmod v B] := by
  unfold digs rangeKs
  rw [List.range_succ_eq_map]
  simp only [List.map_cons, List.map_map, List.reverse_cons]
  congr 1
  · congr 1
    apply List.map_congr_left
    intro k _
    simp only [Function.comp]
    have e1 : Int.toNat (0 + ((Nat.succ k : Nat) : Int)) = k + 1 := by omega
    have e2 : Int.toNat (0 + (k : Int)) = k := by omega
    rw [e1, e2, Int.pow_succ, Int.mul_comm, fdiv_fdiv_pos _ _ _ hB (Int.pow_pos hB)]
  · simp
theorem digs_val (B : Int) (hB : 0 < B) : ∀ l : List Int, (∀ c ∈ l, 0 ≤ c ∧ c < B) → digs B (val B l) l.length = l := by
  refine snoc_ind (fun _ => rfl) fun l x ih h => ?_
  have hx := h x (by simp)
  have e1 : Int.fdiv (val B l * B + x) B = val B l := by
    rw [Int.fdiv_eq_ediv_of_nonneg _ (Int.le_of_lt hB), Int.add_comm, Int.add_mul_ediv_right _ _ (Int.ne_of_gt hB), Int.ediv_eq_zero_of_lt hx.1 hx.2, Int.zero_add]
  have e2 : Int.fmod (val B l * B + x) B = x := by
    rw [Int.fmod_eq_emod_of_nonneg _ (Int.le_of_lt hB), Int.add_comm, Int.add_mul_emod_self_right, Int.emod_eq_of_lt hx.1 hx.2]
  rw [val_snoc, List.length_append, List.length_singleton, digs_succ _ _ hB, e1, e2, ih fun c hc => h c (by simp [hc])]
/-- what the writing loop holds -/
noncomputable def BInv (l : List Int) (a : B2) : Prop := ∃ fs : List Int, a.out = fs.map alI ∧ (∀ c ∈ fs, 0 ≤ c ∧ c < 64) ∧
  ((a.lb = 0 ∧ fs.length * 6 = l.length * 8 ∧ val 64 fs = val 256 l) ∨ (a.lb = 2 ∧ fs.length * 6 + 2 = l.length * 8 ∧ val 64 fs * 4 + a.lc % 4 = val 256 l) ∨ (a.lb = 4 ∧ fs.length * 6 + 4 = l.length * 8 ∧ val 64 fs * 16 + a.lc % 16 = val 256 l))
theorem bInv_run : ∀ l : List Int, KBa.In l → BInv l (b2aRun l) := by
  refine snoc_ind (fun _ => ⟨[], rfl, fun _ h => (nomatch h), .inl ⟨rfl, rfl, rfl⟩⟩) fun l n ih h => ?_
  have hn := h n (by simp)
  obtain ⟨fs, ho, hf, hc⟩ := ih fun c hc => h c (by simp [hc])
  rw [b2aRun_snoc]
  have app : ∀ x : Int, 0 ≤ x ∧ x < 64 → ∀ c ∈ fs ++ [x], 0 ≤ c ∧ c < 64 := fun x hx c hc => by
    rcases List.mem_append.mp hc with hc | hc
    · exact hf c hc
    · rw [List.mem_singleton.mp hc]; exact hx
  unfold b2aStep
  dsimp only
  rcases hc with ⟨h1, h2, h3⟩ | ⟨h1, h2, h3⟩ | ⟨h1, h2, h3⟩
  · rw [if_pos h1]
    refine ⟨fs ++ [((b2aRun l).lc * 256 + n) % 65536 / 4 % 64], by simp [ho], app _ (by omega), .inr (.inl ⟨rfl, by simp; omega, ?_⟩)⟩
    rw [val_snoc, val_snoc]
    dsimp only
    omega
  · rw [if_neg (by rw [h1]; decide), if_pos h1]
    refine ⟨fs ++ [((b2aRun l).lc * 256 + n) % 65536 / 16 % 64], by simp [ho], app _ (by omega), .inr (.inr ⟨rfl, by simp; omega, ?_⟩)⟩
    rw [val_snoc, val_snoc]
    dsimp only
    omega
  · rw [if_neg (by rw [h1]; decide), if_neg (by rw [h1]; decide)]
    refine ⟨fs ++ [((b2aRun l).lc * 256 + n) % 65536 / 64 % 64, ((b2aRun l).lc * 256 + n) % 65536 % 64], by simp [ho], ?_, .inl ⟨rfl, by simp; omega, ?_⟩⟩
    · intro c hc
      simp only [List.mem_append, List.mem_cons, List.not_mem_nil, or_false] at hc
      rcases hc with hc | rfl | rfl
      · exact hf c hc
      · omega
      · omega
    · rw [show fs ++ [((b2aRun l).lc * 256 + n) % 65536 / 64 % 64, ((b2aRun l).lc * 256 + n) % 65536 % 64] = (fs ++ [((b2aRun l).lc * 256 + n) % 65536 / 64 % 64]) ++ [((b2aRun l).lc * 256 + n) % 65536 % 64] by simp, val_snoc, val_snoc, val_snoc]
      omega
theorem figures_digs (ks : List Int) : figures ks = digs 64 (val 256 ks * 2 ^ Int.toNat (figCount ks.length * 6 - (ks.length : Int) * 8)) (Int.toNat (figCount ks.length - 0)) := rfl
theorem figCount_eq (n : Nat) : figCount n = ((n * 4 + 2) / 3 : Nat) := by unfold figCount; rw [Int.fdiv_eq_ediv_of_nonneg _ (by decide)]; omega
theorem figures_of {ks fs : List Int} {r : Nat} (hr : (fs.length : Int) * 6 = (ks.length : Int) * 8 + r) (hr2 : r < 6) (hf : ∀ c ∈ fs, 0 ≤ c ∧ c < 64) (hv : val 64 fs = val 256 ks * 2 ^ r) : figures ks = fs := by
  have hc : figCount ks.length = (fs.length : Int) := by rw [figCount_eq]; omega
  rw [figures_digs, hc, show Int.toNat ((fs.length : Int) * 6 - (ks.length : Int) * 8) = r by omega, show Int.toNat ((fs.length : Int) - 0) = fs.length by omega, ← hv]
  exact digs_val 64 (by decide) fs hf
/-- the = of a writing -/
noncomputable def padN (n : Nat) : Nat := (4 - n % 4) % 4
theorem b2a_figs (ks : List Int) (h : KBa.In ks) : b2a ks = (figures ks).map alI ++ List.replicate (padN (figures ks).length) 61 := by
  obtain ⟨fs, ho, hf, hc⟩ := bInv_run ks h
  unfold b2a b2aEnd
  have app : ∀ x : Int, 0 ≤ x ∧ x < 64 → ∀ c ∈ fs ++ [x], 0 ≤ c ∧ c < 64 := fun x hx c hc => by
    rcases List.mem_append.mp hc with hc | hc
    · exact hf c hc
    · rw [List.mem_singleton.mp hc]; exact hx
  rcases hc with ⟨h1, h2, h3⟩ | ⟨h1, h2, h3⟩ | ⟨h1, h2, h3⟩
  · rw [if_neg (by rw [h1]; decide), if_neg (by rw [h1]; decide)]
    have e : figures ks = fs := figures_of (r := 0) (by omega) (by decide) hf (by rw [h3]; omega)
    rw [e, ho, show padN fs.length = 0 by unfold padN; omega]
    simp
  · rw [if_pos h1]
    have e : figures ks = fs ++ [(b2aRun ks).lc % 4 * 16] := figures_of (r := 4) (by simp; omega) (by decide) (app _ (by omega)) (by rw [val_snoc, ← h3]; omega)
    rw [e, ho, show padN (fs ++ [(b2aRun ks).lc % 4 * 16]).length = 2 by unfold padN; simp; omega]
    simp [List.replicate]
  · rw [if_neg (by rw [h1]; decide), if_pos h1]
    have e : figures ks = fs ++ [(b2aRun ks).lc % 16 * 4] := figures_of (r := 2) (by simp; omega) (by decide) (app _ (by omega)) (by rw [val_snoc, ← h3]; omega)
    rw [e, ho, show padN (fs ++ [(b2aRun ks).lc % 16 * 4]).length = 1 by unfold padN; simp; omega]
    simp [List.replicate]
/-! ### reading -/
theorem b64v_al (f : Int) (h0 : 0 ≤ f) (h1 : f < 64) : b64v (alI f) = f ∧ alI f ≠ 61 := by
  obtain ⟨n, rfl⟩ := Int.eq_ofNat_of_zero_le h0
  have hn : n < 64 := by omega
  have : ∀ n < 64, b64v (alI ((n : Nat) : Int)) = ((n : Nat) : Int) ∧ alI ((n : Nat) : Int) ≠ 61 := by decide +kernel
  exact this n hn
noncomputable def AInv (ns : List Int) (a : A2) : Prop := a.pads = 0 ∧ KBa.In a.out ∧ 0 ≤ a.lc ∧
  ((a.q = 0 ∧ ns.length % 4 = 0 ∧ a.out.length * 4 = ns.length * 3 ∧ val 64 ns = val 256 a.out) ∨ (a.q = 1 ∧ ns.length % 4 = 1 ∧ a.lc < 64 ∧ a.out.length * 4 + 3 = ns.length * 3 ∧ val 64 ns = val 256 a.out * 64 + a.lc) ∨
   (a.q = 2 ∧ ns.length % 4 = 2 ∧ a.lc < 16 ∧ a.out.length * 4 + 2 = ns.length * 3 ∧ val 64 ns = val 256 a.out * 16 + a.lc) ∨ (a.q = 3 ∧ ns.length % 4 = 3 ∧ a.lc < 4 ∧ a.out.length * 4 + 1 = ns.length * 3 ∧ val 64 ns = val 256 a.out * 4 + a.lc))
noncomputable def sgn (d f : Int) : Int := if f = d then 46 else alI f
theorem aInv_run (st : Bool) (d : Int) : ∀ gs : List Int, (∀ c ∈ gs, 0 ≤ c ∧ c < 64) → (st = true → d ∉ gs) → ∃ a, a2bRun st (gs.map (sgn d)) = some a ∧ AInv (gs.filter (· != d)) a := by
  refine snoc_ind (fun _ _ => ⟨_, rfl, rfl, (fun _ h => nomatch h), by decide, .inl ⟨rfl, rfl, rfl, rfl⟩⟩) fun gs f ih h hd => ?_
  obtain ⟨a, ha, hp, hi, hl, hc⟩ := ih (fun c hc => h c (by simp [hc])) (fun hs hm => hd hs (by simp [hm]))
  have hf := h f (by simp)
  obtain ⟨hv, hne⟩ := b64v_al f hf.1 hf.2
  rw [List.map_append, List.map_singleton, a2bRun_snoc, ha, List.filter_append]
  show ∃ b, a2bStep st a (sgn d f) = some b ∧ _
  unfold sgn
  by_cases hfd : f = d
  · rw [if_pos hfd]
    have hst : st = false := by
      cases st
      · rfl
      · exact absurd (by simp [hfd]) (hd rfl)
    have e : [f].filter (· != d) = [] := by simp [hfd]
    rw [e, List.append_nil]
    refine ⟨{ a with i := a.i + 1 }, ?_, hp, hi, hl, hc⟩
    unfold a2bStep
    rw [if_neg (by decide), if_pos (by decide), hst]
    rfl
  · rw [if_neg hfd]
    have e : [f].filter (· != d) = [f] := by simp [hfd]
    rw [e]
    have app : ∀ x : Int, 0 ≤ x ∧ x < 256 → KBa.In (a.out ++ [x]) := fun x hx c hc => by
      rcases List.mem_append.mp hc with hc | hc
      · exact hi c hc
      · rw [List.mem_singleton.mp hc]; exact hx
    unfold a2bStep
    rw [if_neg hne, hv, if_neg (by omega), if_neg (by rw [hp]; simp)]
    rcases hc with ⟨h1, h2, h3, h4⟩ | ⟨h1, h2, h3, h4, h5⟩ | ⟨h1, h2, h3, h4, h5⟩ | ⟨h1, h2, h3, h4, h5⟩
    · rw [if_pos h1]
      refine ⟨_, rfl, rfl, hi, hf.1, .inr (.inl ⟨rfl, by simp; omega, hf.2, by simp; omega, ?_⟩)⟩
      rw [val_snoc, h4]
    · rw [if_neg (by omega), if_pos h1]
      refine ⟨_, rfl, rfl, app _ (by omega), by dsimp only; omega, .inr (.inr (.inl ⟨rfl, by simp; omega, by dsimp only; omega, by simp; omega, ?_⟩))⟩
      dsimp only
      rw [val_snoc, val_snoc, h5]; omega
    · rw [if_neg (by omega), if_neg (by omega), if_pos h1]
      refine ⟨_, rfl, rfl, app _ (by omega), by dsimp only; omega, .inr (.inr (.inr ⟨rfl, by simp; omega, by dsimp only; omega, by simp; omega, ?_⟩))⟩
      dsimp only
      rw [val_snoc, val_snoc, h5]; omega
    · rw [if_neg (by omega), if_neg (by omega), if_neg (by omega)]
      refine ⟨_, rfl, rfl, app _ (by omega), Int.le_refl 0, .inl ⟨rfl, by simp; omega, by simp; omega, ?_⟩⟩
      dsimp only
      rw [val_snoc, val_snoc, h5]; omega
theorem octets_digs (ns : List Int) : octets ns = digs 256 (Int.fdiv (val 64 ns) (2 ^ Int.toNat (Int.fmod (-2 * (ns.length : Int)) 8))) (Int.toNat (Int.fdiv ((ns.length : Int) * 3) 4 - 0)) := rfl
theorem aInv_octets {ns : List Int} {a : A2} (h : AInv ns a) : a.out = octets ns := by
  obtain ⟨_, hi, hl, hc⟩ := h
  have e1 : Int.toNat (Int.fdiv ((ns.length : Int) * 3) 4 - 0) = ns.length * 3 / 4 := by rw [Int.fdiv_eq_ediv_of_nonneg _ (by decide)]; omega
  have e2 : Int.toNat (Int.fmod (-2 * (ns.length : Int)) 8) = (8 - 2 * ns.length % 8) % 8 := by rw [Int.fmod_eq_emod_of_nonneg _ (by decide)]; omega
  rw [octets_digs, e1, e2]
  have key : ∀ (r : Nat) (x : Int), (8 - 2 * ns.length % 8) % 8 = r → a.out.length = ns.length * 3 / 4 → 0 ≤ x → x < 2 ^ r → val 64 ns = val 256 a.out * 2 ^ r + x → a.out = digs 256 (Int.fdiv (val 64 ns) (2 ^ ((8 - 2 * ns.length % 8) % 8))) (ns.length * 3 / 4) := by
    intro r x hr hlen hx hlt hv
    have h2 : (0 : Int) < 2 ^ r := Int.pow_pos (by decide)
    rw [hr, hv, Int.fdiv_eq_ediv_of_nonneg _ (Int.le_of_lt h2), Int.add_comm, Int.add_mul_ediv_right _ _ (Int.ne_of_gt h2), Int.ediv_eq_zero_of_lt hx hlt, Int.zero_add, ← hlen]
    exact (digs_val 256 (by decide) a.out hi).symm
  rcases hc with ⟨h1, h2, h3, h4⟩ | ⟨h1, h2, h3, h4, h5⟩ | ⟨h1, h2, h3, h4, h5⟩ | ⟨h1, h2, h3, h4, h5⟩
  · exact key 0 0 (by omega) (by omega) (by decide) (by decide) (by rw [h4]; omega)
  · exact key 6 a.lc (by omega) (by omega) hl h3 h5
  · exact key 4 a.lc (by omega) (by omega) hl h3 h5
  · exact key 2 a.lc (by omega) (by omega) hl h3 h5
theorem pads_run (p : Nat) : ∀ a : A2, (List.replicate p (61 : Int)).foldlM (a2bStep false) a = some { a with pads := a.pads + p, i := a.i + p } := by
  induction p with
  | zero => intro a; simp
  | succ p ih =>
    intro a
    have e : a2bStep false a 61 = some { a with pads := a.pads + 1, i := a.i + 1 } := by
      unfold a2bStep; rw [if_pos rfl]; split <;> rfl
    rw [List.replicate_succ, List.foldlM_cons, e]
    show (List.replicate p (61 : Int)).foldlM (a2bStep false) _ = _
    rw [ih]
    simp only [Option.some.injEq, A2.mk.injEq, true_and]
    constructor <;> (push_cast; omega)
theorem a2b_loose (d : Int) (gs : List Int) (p : Nat) (h : ∀ c ∈ gs, 0 ≤ c ∧ c < 64) :
    a2b false (gs.map (sgn d) ++ List.replicate p 61) = if (gs.filter (· != d)).length % 4 = 0 ∨ ((gs.filter (· != d)).length % 4 > 1 ∧ (gs.filter (· != d)).length % 4 + p > 3) then some (octets (gs.filter (· != d))) else none := by
  obtain ⟨a, ha, hA⟩ := aInv_run false d gs h (fun h => nomatch h)
  have ho := aInv_octets hA
  obtain ⟨hp, _, _, hc⟩ := hA
  unfold a2b
  rw [a2bRun_app, ha]
  show ((List.replicate p (61 : Int)).foldlM (a2bStep false) a).bind a2bEnd = _
  rw [pads_run]
  show a2bEnd _ = _
  unfold a2bEnd
  dsimp only
  rw [← ho, hp]
  have hq : a.q = (((gs.filter (· != d)).length % 4 : Nat) : Int) := by omega
  rw [hq]
  generalize (gs.filter (· != d)).length % 4 = k at *
  by_cases h1 : k = 1
  · rw [if_pos (by omega), if_neg (by omega)]
  · rw [if_neg (by omega)]
    by_cases h2 : k = 0 ∨ (k > 1 ∧ k + p > 3)
    · rw [if_pos h2, if_neg (by omega)]
    · rw [if_neg h2, if_pos (by omega)]
theorem a2b_strict (d : Int) (gs : List Int) (p : Nat) (h : ∀ c ∈ gs, 0 ≤ c ∧ c < 64) (hd : d ∉ gs) (hp2 : p ≤ 2) (hz : ¬ ((gs.filter (· != d)).length % 4 = 0 ∧ 0 < p)) :
    a2b true (gs.map (sgn d) ++ List.replicate p 61) = if ((gs.filter (· != d)).length % 4 + p) % 4 = 0 then some (octets (gs.filter (· != d))) else none := by
  obtain ⟨a, ha, hA⟩ := aInv_run true d gs h (fun _ => hd)
  have ho := aInv_octets hA
  obtain ⟨hp, _, _, hc⟩ := hA
  unfold a2b
  rw [a2bRun_app, ha]
  show ((List.replicate p (61 : Int)).foldlM (a2bStep true) a).bind a2bEnd = _
  rw [← ho]
  have hq : a.q = (((gs.filter (· != d)).length % 4 : Nat) : Int) := by omega
  have hk : (gs.filter (· != d)).length % 4 < 4 := Nat.mod_lt _ (by decide)
  clear ha ho hc hd h
  generalize (gs.filter (· != d)).length % 4 = k at *
  obtain ⟨out, q, lc, pads, i⟩ := a
  dsimp only at hp hq ⊢
  subst hp
  have hk' : k = 0 ∨ k = 1 ∨ k = 2 ∨ k = 3 := by omega
  have hp' : p = 0 ∨ p = 1 ∨ p = 2 := by omega
  rcases hk' with rfl | rfl | rfl | rfl <;> rcases hp' with rfl | rfl | rfl <;> subst hq <;> first | (exact absurd ⟨rfl, by decide⟩ hz) | (simp [a2bStep, a2bEnd, List.replicate])
/-! ### signs -/
structure Dt (d a0 a1 b0 b1 : Int) : Prop where
  q : (d = 62 ∧ a0 = 46 ∧ a1 = 126 ∧ b0 = 33 ∧ b1 = 126) ∨ (d = 63 ∧ a0 = 126 ∧ a1 = 46 ∧ b0 = 126 ∧ b1 = 33)
theorem sign_facts {d a0 a1 b0 b1 : Int} (D : Dt d a0 a1 b0 b1) (f : Int) (h0 : 0 ≤ f) (h1 : f < 64) :
    (trC 43 47 a0 a1 (alI f) = 46 ↔ f = d) ∧ (f ≠ d → trC a0 a1 43 47 (trC 43 47 a0 a1 (alI f)) = alI f) ∧ trC b0 b1 43 47 (trC 43 47 a0 a1 (alI f)) = sgn d f := by
  obtain ⟨n, rfl⟩ := Int.eq_ofNat_of_zero_le h0
  have hn : n < 64 := by omega
  obtain ⟨D | D⟩ := D <;> obtain ⟨rfl, rfl, rfl, rfl, rfl⟩ := D
  · have : ∀ n < 64, (trC 43 47 46 126 (alI ((n : Nat) : Int)) = 46 ↔ ((n : Nat) : Int) = 62) ∧ (((n : Nat) : Int) ≠ 62 → trC 46 126 43 47 (trC 43 47 46 126 (alI ((n : Nat) : Int))) = alI ((n : Nat) : Int)) ∧ trC 33 126 43 47 (trC 43 47 46 126 (alI ((n : Nat) : Int))) = sgn 62 ((n : Nat) : Int) := by decide +kernel
    exact this n hn
  · have : ∀ n < 64, (trC 43 47 126 46 (alI ((n : Nat) : Int)) = 46 ↔ ((n : Nat) : Int) = 63) ∧ (((n : Nat) : Int) ≠ 63 → trC 126 46 43 47 (trC 43 47 126 46 (alI ((n : Nat) : Int))) = alI ((n : Nat) : Int)) ∧ trC 126 33 43 47 (trC 43 47 126 46 (alI ((n : Nat) : Int))) = sgn 63 ((n : Nat) : Int) := by decide +kernel
    exact this n hn
theorem eq_facts {d a0 a1 b0 b1 : Int} (D : Dt d a0 a1 b0 b1) : trC 43 47 a0 a1 61 = 61 ∧ trC a0 a1 43 47 61 = 61 ∧ trC b0 b1 43 47 61 = 61 := by
  obtain ⟨D | D⟩ := D <;> obtain ⟨rfl, rfl, rfl, rfl, rfl⟩ := D <;> decide
/-- the writing -/
noncomputable def wr (ks : List Int) (a0 a1 : Int) : List Int := (b2a ks).map (trC 43 47 a0 a1)
section
variable {d a0 a1 b0 b1 : Int} {ks : List Int}
noncomputable abbrev kp (d : Int) (ks : List Int) : List Int := (figures ks).filter (· != d)
theorem wr_eq (D : Dt d a0 a1 b0 b1) (h : KBa.In ks) : wr ks a0 a1 = (figures ks).map (fun f => trC 43 47 a0 a1 (alI f)) ++ List.replicate (padN (figures ks).length) 61 := by
  unfold wr
  rw [b2a_figs ks h, List.map_append, List.map_map, List.map_replicate, (eq_facts D).1]
  rfl
theorem wr_ch (D : Dt d a0 a1 b0 b1) : Ch (wr ks a0 a1) := trC_ch (b2a_ch ks) (by obtain ⟨D | D⟩ := D <;> omega) (by obtain ⟨D | D⟩ := D <;> omega)
theorem wr_len : (wr ks a0 a1).length ≤ 2 * ks.length + 3 := by unfold wr; rw [List.length_map]; exact b2a_len ks
theorem struck_eq (D : Dt d a0 a1 b0 b1) (h : KBa.In ks) : ((wr ks a0 a1).filter (· != 46)).map (trC a0 a1 43 47) = (kp d ks).map (sgn d) ++ List.replicate (padN (figures ks).length) 61 := by
  rw [wr_eq D h, List.filter_append, List.map_append]
  congr 1
  · have : ∀ fs : List Int, (∀ c ∈ fs, 0 ≤ c ∧ c < 64) → ((fs.map (fun f => trC 43 47 a0 a1 (alI f))).filter (· != 46)).map (trC a0 a1 43 47) = (fs.filter (· != d)).map (sgn d) := by
      intro fs
      induction fs with
      | nil => intro _; rfl
      | cons f fs ih =>
        intro hf
        have ih := ih fun c hc => hf c (.tail _ hc)
        obtain ⟨s1, s2, _⟩ := sign_facts D f (hf f (.head _)).1 (hf f (.head _)).2
        by_cases e : f = d
        · have e1 := s1.mpr e
          rw [List.map_cons, e1, List.filter_cons_of_neg (by decide), List.filter_cons_of_neg (by simp [e])]
          exact ih
        · have e1 : trC 43 47 a0 a1 (alI f) ≠ 46 := fun q => e (s1.mp q)
          rw [List.map_cons, List.filter_cons_of_pos (by simpa using e1), List.filter_cons_of_pos (by simpa using e), List.map_cons, List.map_cons, s2 e, ih]
          unfold sgn
          rw [if_neg e]
    exact this _ (figures_in ks)
  · rw [List.filter_eq_self.mpr (by intro c hc; rw [List.eq_of_mem_replicate hc]; decide), List.map_replicate, (eq_facts D).2.1]
theorem again_eq (D : Dt d a0 a1 b0 b1) (h : KBa.In ks) : (wr ks a0 a1).map (trC b0 b1 43 47) = (figures ks).map (sgn d) ++ List.replicate (padN (figures ks).length) 61 := by
  rw [wr_eq D h, List.map_append, List.map_map, List.map_replicate, (eq_facts D).2.2]
  congr 1
  apply List.map_congr_left
  intro f hf
  exact (sign_facts D f (figures_in ks f hf).1 (figures_in ks f hf).2).2.2
noncomputable def over (d : Int) (ks : List Int) : Nat := (kp d ks).length % 4
noncomputable def dueOf (d : Int) (ks : List Int) : Option (List Int) := if over d ks = 0 ∨ (over d ks > 1 ∧ over d ks + padN (figures ks).length > 3) then some (octets (kp d ks)) else none
theorem kp_in : ∀ c ∈ kp d ks, 0 ≤ c ∧ c < 64 := fun c hc => figures_in ks c (List.mem_filter.mp hc).1
theorem kp_kp : (kp d ks).filter (· != d) = kp d ks := by rw [List.filter_filter]; simp
theorem law_read1 (D : Dt d a0 a1 b0 b1) (h : KBa.In ks) : a2b false (((wr ks a0 a1).filter (· != 46)).map (trC a0 a1 43 47)) = dueOf d ks := by
  rw [struck_eq D h, a2b_loose d _ _ kp_in, kp_kp]; rfl
theorem law_read2 (D : Dt d a0 a1 b0 b1) (h : KBa.In ks) : a2b false ((wr ks a0 a1).map (trC b0 b1 43 47)) = dueOf d ks := by
  rw [again_eq D h, a2b_loose d _ _ (figures_in ks)]; rfl
theorem pad_le (n : Nat) (h : n % 4 ≠ 1) : padN n ≤ 2 := by unfold padN; omega
theorem fig_mod : (figures ks).length % 4 ≠ 1 := by rw [figures_len]; omega
theorem law_read3 (D : Dt d a0 a1 b0 b1) (h : KBa.In ks) (hz : ¬ (over d ks = 0 ∧ 0 < padN (figures ks).length)) : a2b true (((wr ks a0 a1).filter (· != 46)).map (trC a0 a1 43 47)) = if (over d ks + padN (figures ks).length) % 4 = 0 then some (octets (kp d ks)) else none := by
  rw [struck_eq D h, a2b_strict d _ _ kp_in (by simp) (pad_le _ fig_mod) (by rw [kp_kp]; exact hz), kp_kp]; rfl
theorem law_first (D : Dt d a0 a1 b0 b1) (h : KBa.In ks) : (wr ks a0 a1).takeWhile (· != 46) = [] ↔ (figures ks).take 1 = [] ∨ (figures ks).take 1 = [d] := by
  rw [wr_eq D h]
  cases hf : figures ks with
  | nil => simp [padN]
  | cons f fs =>
    have hr := figures_in ks f (by rw [hf]; exact .head _)
    obtain ⟨s1, _, _⟩ := sign_facts D f hr.1 hr.2
    simp only [List.map_cons, List.cons_append, List.takeWhile_cons, List.take_succ_cons, List.take_zero]
    by_cases e : f = d
    · have e1 := s1.mpr e
      subst e
      simp [e1]
    · have e1 : trC 43 47 a0 a1 (alI f) ≠ 46 := fun q => e (s1.mp q)
      have : (trC 43 47 a0 a1 (alI f) != 46) = true := by simpa using e1
      simp [this, e]
/-- no blank in a writing -/
theorem wr_blank (D : Dt d a0 a1 b0 b1) (h : KBa.In ks) : 32 ∉ wr ks a0 a1 := by
  rw [wr_eq D h]
  intro hm
  rcases List.mem_append.mp hm with hm | hm
  · obtain ⟨f, hf, e⟩ := List.mem_map.mp hm
    obtain ⟨n, rfl⟩ := Int.eq_ofNat_of_zero_le (figures_in ks f hf).1
    have hn : n < 64 := by have := (figures_in ks _ hf).2; omega
    obtain ⟨D | D⟩ := D <;> obtain ⟨rfl, rfl, rfl, rfl, rfl⟩ := D
    · have : ∀ n < 64, trC 43 47 46 126 (alI ((n : Nat) : Int)) ≠ 32 := by decide +kernel
      exact this n hn e
    · have : ∀ n < 64, trC 43 47 126 46 (alI ((n : Nat) : Int)) ≠ 32 := by decide +kernel
      exact this n hn e
  · have := List.eq_of_mem_replicate hm
    omega
end
end
section
noncomputable def convA : List (PySem.Str × VD) := [(Str.ofString "grouping", .one 127), (Str.ofString "currency_symbol", .str (Str.ofString "")), (Str.ofString "n_sign_posn", .int 127), (Str.ofString "p_cs_precedes", .int 127), (Str.ofString "n_cs_precedes", .int 127), (Str.ofString "mon_grouping", .nil), (Str.ofString "n_sep_by_space", .int 127), (Str.ofString "decimal_point", .str (Str.ofString ".")), (Str.ofString "negative_sign", .str (Str.ofString "")), (Str.ofString "positive_sign", .str (Str.ofString "")), (Str.ofString "p_sep_by_space", .int 127), (Str.ofString "int_curr_symbol", .str (Str.ofString "")), (Str.ofString "p_sign_posn", .int 127), (Str.ofString "thousands_sep", .str (Str.ofString "")), (Str.ofString "mon_thousands_sep", .str (Str.ofString "")), (Str.ofString "frac_digits", .int 127), (Str.ofString "mon_decimal_point", .str (Str.ofString ""))]
noncomputable def convZ : PySem.Str × VD := (Str.ofString "int_frac_digits", .int 127)
noncomputable def CF (kvs : List (PySem.Str × Value)) (q1 q2 : Addr) : Prop :=
  (∃ t, valueAt kvs (Str.ofString "thousands_sep") = some (.str (Str.ofString "") t)) ∧ (∃ t, valueAt kvs (Str.ofString "mon_thousands_sep") = some (.str (Str.ofString "") t)) ∧
  (∃ t, valueAt kvs (Str.ofString "decimal_point") = some (.str (Str.ofString ".") (t + 1))) ∧ (∃ t, valueAt kvs (Str.ofString "mon_decimal_point") = some (.str (Str.ofString "") t)) ∧
  valueAt kvs (Str.ofString "grouping") = some (.ref q1) ∧ valueAt kvs (Str.ofString "mon_grouping") = some (.ref q2)
theorem conv_nodup : ((convA ++ [convZ]).map (·.1)).Nodup := by decide +kernel
theorem CF.of {lo : Nat} {h : Heap} {kvs : List (PySem.Str × Value)} (x : Fits lo h (convA ++ [convZ]) kvs) : ∃ q1 q2 t, CF kvs q1 q2 ∧ lo ≤ q1 ∧ lo ≤ q2 ∧ h.get? q1 = some { cls := .type "list", data := .seq #[.int 127 t] } ∧ h.get? q2 = some { cls := .type "list", data := .seq #[] } := by
  obtain ⟨v1, a1, t1, rfl⟩ := x.at (Str.ofString "thousands_sep") (.str (Str.ofString "")) (by kernel_rfl)
  obtain ⟨v2, a2, t2, rfl⟩ := x.at (Str.ofString "mon_thousands_sep") (.str (Str.ofString "")) (by kernel_rfl)
  obtain ⟨v3, a3, t3, rfl⟩ := x.at (Str.ofString "decimal_point") (.str (Str.ofString ".")) (by kernel_rfl)
  obtain ⟨v4, a4, t4, rfl⟩ := x.at (Str.ofString "mon_decimal_point") (.str (Str.ofString "")) (by kernel_rfl)
  obtain ⟨v5, a5, q1, t5, rfl, l5, g5⟩ := x.at (Str.ofString "grouping") (.one 127) (by kernel_rfl)
  obtain ⟨v6, a6, q2, rfl, l6, g6⟩ := x.at (Str.ofString "mon_grouping") .nil (by kernel_rfl)
  exact ⟨q1, q2, t5, ⟨⟨_, a1⟩, ⟨_, a2⟩, ⟨_, a3⟩, ⟨_, a4⟩, a5, a6⟩, l5, l6, g5, g6⟩
theorem Fits.le {lo lo' : Nat} {h : Heap} {l : List (PySem.Str × VD)} {r : List (PySem.Str × Value)} (x : Fits lo h l r) (hl : lo' ≤ lo) : Fits lo' h l r := by
  induction x with
  | nil => exact .nil
  | cons a _ ih => exact .cons (a.le hl) ih
theorem nw_at {s : Shared} {h₀ h' : Heap} {L : Addr} {m : Str → Option Value} (F : Fr h₀ L s.heap m) {p : Addr} {o : Obj} (hl : s.heap.objs.size ≤ p) (hg : h'.get? p = some o) : h'.get? p = some o ∧ p ≠ L ∧ h₀.get? p = none := by
  refine ⟨hg, fun e => ?_, ?_⟩
  · obtain ⟨oL, _, _, hL, _⟩ := F.ns
    exact absurd (Heap.lt_size hL) (Nat.not_lt.mpr (e ▸ hl))
  · cases z : h₀.get? p with
    | none => rfl
    | some o' => exact absurd (Heap.lt_size (F.keep _ _ z)) (Nat.not_lt.mpr hl)
theorem news3 {s : Shared} {h₀ h' : Heap} {L q q1 q2 : Addr} {o o1 o2 : Obj} {m : Str → Option Value} {news : Led} (F : Fr h₀ L s.heap m) (N : News h₀ L s.heap news) (K : Kp s.heap h') (hq : s.heap.objs.size ≤ q) (l1 : s.heap.objs.size ≤ q1) (l2 : s.heap.objs.size ≤ q2)
    (hg : h'.get? q = some o) (g1 : h'.get? q1 = some o1) (g2 : h'.get? q2 = some o2) : News h₀ L h' ((q, o) :: (q1, o1) :: (q2, o2) :: news) := by
  intro p hp
  rcases List.mem_cons.mp hp with rfl | hp
  · exact nw_at F hq hg
  rcases List.mem_cons.mp hp with rfl | hp
  · exact nw_at F l1 g1
  rcases List.mem_cons.mp hp with rfl | hp
  · exact nw_at F l2 g2
  · exact N.grown K p hp
section
variable {prog : Program} {w : World} {A : Around} {E : Value → Shared → Prop} {s : Shared} {env : Env} {h₀ : Heap} {L : Addr} {m : Str → Option Value} {news : Led}
theorem display_K {keys : List (Option PySem.Expr)} {values : List PySem.Expr} {pos : Pos} {u1 : Nat} {u2 : Pos} {v : PySem.Expr} {Q : Value → Shared → Prop} (F : Fr h₀ L s.heap m) (N : News h₀ L s.heap news) (hnl : h₀.NoLimit)
    (hk : KDs (keys.take 17) (values.take 17) convA) (h1 : keys.drop 17 = [some (.Constant (.str convZ.1) u1 u2)]) (h2 : values.drop 17 = [v]) (hc : IsVD v convZ.2) (hall : keys.all (·.isSome) = true)
    (k : ∀ q od kvs q1 q2 t h' tk', od.IsDictOf (PySem.strKind prog w) kvs → CF kvs q1 q2 → Fr h₀ L h' m → News h₀ L h' ((q, od) :: (q1, PySem.W.listOf #[.int 127 t] 0) :: (q2, PySem.W.listOf #[] 0) :: news) → h₀.objs.size ≤ q → h₀.objs.size ≤ q1 → h₀.objs.size ≤ q2 → Q (.ref q) { s with heap := h', toks := tk' }) :
    wpAny (model prog w) A (eval (.Dict keys values pos) env) Q E s := by
  have hl : h₀.objs.size ≤ s.heap.objs.size := Nat.le_of_lt (Nat.lt_of_le_of_lt F.above F.ns.lt)
  refine display_lits hk h1 h2 hc hall conv_nodup (Nat.lt_of_lt_of_le (modules_low hnl) hl) fun kvs h' tk' FT D K => ?_
  obtain ⟨od, ho, hd⟩ := Heap.dictOf_iff.mp D
  obtain ⟨q1, q2, t, cf, l1, l2, g1, g2⟩ := CF.of FT
  exact k _ od kvs q1 q2 t h' tk' hd cf (F.after K) (news3 F N K (Nat.le_refl _) l1 l2 ho g1 g2) hl (Nat.le_trans hl l1) (Nat.le_trans hl l2)
end
noncomputable def CtL (W : Wd) (need f : Nat) : Prop :=
  ∀ (dp un : Nat) (gd : Option (List Code)) (cn : Str) (cs : Scope) (a : Addr) (ccd : Value) (cl : List (Str × Addr)) (outer : List Env) (A₀ : Around) (base h₀ : Heap) (L : Addr) (m : Str → Option Value) (s : Shared) (Q E : Value → Shared → Prop),
    Below A₀ base outer h₀ → Fr h₀ L s.heap m → (hd.heap_39 W.w.params).In h₀ → Top hd.view_39 Loo W.mean W.mg W.mb h₀ → cs.kind = .function →
    dp + need < recursionLimit → un + 8 * need < cLine →
    (∀ q od kvs q1 q2 t h' tk', Kp s.heap h' → od.IsDictOf (PySem.strKind Prg W.w) kvs → CF kvs q1 q2 → s.heap.objs.size ≤ q → s.heap.objs.size ≤ q1 → s.heap.objs.size ≤ q2 →
      h'.get? q = some od → h'.get? q1 = some (PySem.W.listOf #[.int 127 t] 0) → h'.get? q2 = some (PySem.W.listOf #[] 0) → Q (.ref q) { s with heap := h', toks := tk' }) →
    wpAny (model Prg W.w) (ktrTop dp un gd cn cs L a ccd cl outer) (call (.ref f) [] []) Q E s
theorem ctl_ret {W : Wd} {s : Shared} {Q : Value → Shared → Prop} {q q1 q2 L1 : Addr} {t : Tok} {od : Obj} {kvs : List (Str × Value)} {h' : Heap} {tk' : Nat} {m1 : Str → Option Value} {news : Led}
    (hret : ∀ q od kvs q1 q2 t h' tk', Kp s.heap h' → od.IsDictOf (PySem.strKind Prg W.w) kvs → CF kvs q1 q2 → s.heap.objs.size ≤ q → s.heap.objs.size ≤ q1 → s.heap.objs.size ≤ q2 →
      h'.get? q = some od → h'.get? q1 = some (PySem.W.listOf #[.int 127 t] 0) → h'.get? q2 = some (PySem.W.listOf #[] 0) → Q (.ref q) { s with heap := h', toks := tk' })
    (F : Fr s.heap L1 h' m1) (N : News s.heap L1 h' ((q, od) :: (q1, PySem.W.listOf #[.int 127 t] 0) :: (q2, PySem.W.listOf #[] 0) :: news)) (hd : od.IsDictOf (PySem.strKind Prg W.w) kvs) (cf : CF kvs q1 q2) (hq : s.heap.objs.size ≤ q) (l1 : s.heap.objs.size ≤ q1) (l2 : s.heap.objs.size ≤ q2) : Q (.ref q) { s with heap := h', toks := tk' } :=
  hret q od kvs q1 q2 t h' tk' F.keep hd cf hq l1 l2 (N.get (.head _)) (N.get (.tail _ (.head _))) (N.get (.tail _ (.tail _ (.head _))))
theorem CtL.use {W : Wd} {need f : Nat}
  {dp un : Nat} {gd : Option (List Code)} {cn : Str} {cs : Scope} {a : Addr} {ccd : Value} {cl : List (Str × Addr)} {outer : List Env} {A₀ : Around} {base h₀ : Heap} {L : Addr} {m : Str → Option Value} {news : Led} {s : Shared} {Q E : Value → Shared → Prop}
    (C : CtL W need f) (B : Below A₀ base outer h₀) (F : Fr h₀ L s.heap m) (X : (hd.heap_39 W.w.params).In h₀) (N : News h₀ L s.heap news) (T : Top hd.view_39 Loo W.mean W.mg W.mb h₀) (hk : cs.kind = .function)
    (hd : dp + need < recursionLimit) (hu : un + 8 * need < cLine)
    (ret : ∀ q od kvs q1 q2 t h' tk', od.IsDictOf (PySem.strKind Prg W.w) kvs → CF kvs q1 q2 → Fr h₀ L h' m → News h₀ L h' ((q, od) :: (q1, PySem.W.listOf #[.int 127 t] 0) :: (q2, PySem.W.listOf #[] 0) :: news) →
      h₀.objs.size ≤ q → h₀.objs.size ≤ q1 → h₀.objs.size ≤ q2 → Q (.ref q) { s with heap := h', toks := tk' }) :
    wpAny (model Prg W.w) (ktrTop dp un gd cn cs L a ccd cl outer) (call (.ref f) [] []) Q E s := by
  refine C _ _ _ _ _ _ _ _ _ _ _ _ _ _ _ _ _ B F X T hk hd hu fun q od kvs q1 q2 t h' tk' K hd cf hq l1 l2 hg g1 g2 => ?_
  have hl : h₀.objs.size ≤ s.heap.objs.size := Nat.le_of_lt (Nat.lt_of_le_of_lt F.above F.ns.lt)
  exact ret q od kvs q1 q2 t h' tk' hd cf (F.after K) (news3 F N K hq l1 l2 hg g1 g2) (Nat.le_trans hl hq) (Nat.le_trans hl l1) (Nat.le_trans hl l2)
theorem truthy_empty {prog : Program} {w : World} {A : Around} {E : Value → Shared → Prop} {s : Shared} {h₀ : Heap} {L a : Addr} {n : Nat} {m : Str → Option Value} {K : Frag} {Q : Bool → Shared → Prop} (F : Fr h₀ L s.heap m) (X₀ : K.In h₀) (hl : K.lookup a = some ⟨.type "dict", none, .dict #[] n, #[]⟩) (hs : (a == sysModules) = false) (h : Q false { s with toks := s.toks + 1 + 1 }) :
    wpAny (model prog w) A (truthy (.ref a)) Q E s :=
  wpAny_truthy_dict (knd := PySem.strKind prog w) (kvs := []) hs ⟨_, #[], n, (X₀.keeps F.keep) _ _ hl, ⟨rfl, rfl, rfl⟩, rfl, fun _ he => by simp at he, Pairs.nil, List.nodup_nil⟩ (by decide) h
end
local macro_rules | `(tactic| walk_at "eval Dict") => `(tactic| (k_here; k_dflt (refine' display_K ?kF ?kN ?kT ?kk ?k1 ?k2 ?kc ?ka ?_; (case kF => k_asm); (case kN => first | k_asm | exact News.nil); (case kT => exact Top.nolimit (by k_asm)); (case kk => (repeat (first | exact KDs.nil | refine KDs.cons (by constructor) ?_))); (case k1 => exact rfl); (case k2 => exact rfl); (case kc => constructor); (case ka => exact rfl)); (intro q9 od9 kvs9 p9 r9 t9 h9 tk9 hd9 cf9 F9 N9 hq9 hp9 hr9)))
section
theorem ct_lcv0 (W : Wd) : CtL W 1 46 := by
  intro dp un gd cn cs a ccd cl outer A₀ base h₀ L m s Q E B F X T hk hdp hun hret
  walk_at "MYFILL"
  refine wpAny_call ?_
  k_dflt (refine' code_def0 (binds := []) ?k1 ?k2 ?k3 ?k5 ?kA ?kF ?kK ?k6 ?k7 ?k8 ?k9 ?kB ?_ ?c2 ?c3 ?c4 ?c5; (case kA => exact rfl); (case kF => exact rfl); (case kK => assumption); (case k1 => k_asm); (case k2 => k_asm); (case k3 => k_asm); (case k5 => k_asm); (case k6 => k_is); (case k7 => k_is); (case k8 => walk_at "MYROOM"); (case k9 => first | exact BindsTo.of_eq rfl | exact binds_K (X.keeps F.keep) rfl (by k_is) rfl rfl rfl | (refine' kp_binds ?kx ?ke; (case kx => exact X.keeps F.keep); (case ke => exact fun _ => rfl))); (case c5 => decide); (case kB => exact locs rfl); (case c2 => exact rfl); (case c3 => exact rfl); (case c4 => exact rfl); k_whole; intro L1 h1 F1 N1 B1 X1 T1; (try dsimp only [List.reverse_cons, List.reverse_nil, List.nil_append, List.cons_append, List.append_eq] at F1); (try dsimp only); (try k_fold))
  k_steps
  exact ctl_ret hret (by assumption) (by assumption) (by assumption) (by assumption) (by assumption) (by assumption) (by assumption)
end
local macro_rules | `(tactic| walk_at "call ref") => `(tactic| ((with_reducible refine atR 46 ?_); k_dflt (refine' CtL.use (ct_lcv0 _) ?kB ?kF ?kX ?kN ?kT ?kK ?kD ?kU ?_; walk_at "MYCTB"); (intro q9 od9 kvs9 p9 r9 t9 h9 tk9 hd9 cf9 F9 N9 hq9 hp9 hr9; walk_at "MYD")))
section
local macro_rules | `(tactic| walk_at "truthy ref") => `(tactic| (k_here; k_dflt (refine' truthy_empty ?kF ?kX ?kl ?ks ?_; (case kF => k_asm); (case kX => k_asm); (case kl => k_is); (case ks => rfl))))
theorem ct_lcv (W : Wd) : CtL W 2 76 := by
  intro dp un gd cn cs a ccd cl outer A₀ base h₀ L m s Q E B F X T hk hdp hun hret
  walk_at "MYFILL"
  refine wpAny_call ?_
  k_dflt (refine' code_def0 (binds := []) ?k1 ?k2 ?k3 ?k5 ?kA ?kF ?kK ?k6 ?k7 ?k8 ?k9 ?kB ?_ ?c2 ?c3 ?c4 ?c5; (case kA => exact rfl); (case kF => exact rfl); (case kK => assumption); (case k1 => k_asm); (case k2 => k_asm); (case k3 => k_asm); (case k5 => k_asm); (case k6 => k_is); (case k7 => k_is); (case k8 => walk_at "MYROOM"); (case k9 => first | exact BindsTo.of_eq rfl | exact binds_K (X.keeps F.keep) rfl (by k_is) rfl rfl rfl | (refine' kp_binds ?kx ?ke; (case kx => exact X.keeps F.keep); (case ke => exact fun _ => rfl))); (case c5 => decide); (case kB => exact locs rfl); (case c2 => exact rfl); (case c3 => exact rfl); (case c4 => exact rfl); k_whole; intro L1 h1 F1 N1 B1 X1 T1; (try dsimp only [List.reverse_cons, List.reverse_nil, List.nil_append, List.cons_append, List.append_eq] at F1); (try dsimp only); (try k_fold))
  k_steps
  exact ctl_ret hret (by assumption) (by assumption) (by assumption) (by assumption) (by assumption) (by assumption) (by assumption)
end
section
theorem conv_item {prog : Program} {w : World} {A : Around} {E : Value → Shared → Prop} {s : Shared} {q : Addr} {od : Obj} {kvs : List (Str × Value)} {x : Str} {t : Tok} {value slice : PySem.Expr} {Q : Value → Shared → Prop} {h₀ : Heap} {L : Addr} {news : Led} (N : News h₀ L s.heap news) (hm : (q, od) ∈ news) (hd : od.IsDictOf (PySem.strKind prog w) kvs) {v : Value} (e : valueAt kvs x = some v)
    (h : Q v { s with toks := s.toks + 1 })
    (hs : subscripted slice false (.ref q) (.str x t) = operate [.ref q, .str x t] (getItem (.ref q) (.str x t)) := by with_unfolding_all rfl) :
    wpAny (model prog w) A (subscriptTail value slice (.ref q) (.str x t)) Q E s :=
  have hm := (Heap.dictOf_iff.mpr ⟨od, N.get hm, hd⟩).mapOf
  tail_any hm.typeIs slot_dict_getitem.lookup (wpAny_getItem_of (strKind_is prog w x t) hm e h) hs
end
local macro_rules | `(tactic| walk_at "call ref") => `(tactic| ((with_reducible refine atR 76 ?_); k_dflt (refine' CtL.use (ct_lcv _) ?kB ?kF ?kX ?kN ?kT ?kK ?kD ?kU ?_; walk_at "MYCTB"); (intro q9 od9 kvs9 p9 r9 t9 h9 tk9 hd9 cf9 F9 N9 hq9 hp9 hr9; (obtain ⟨⟨ta9, e19⟩, ⟨tb9, e29⟩, ⟨tc9, e39⟩, ⟨td9, e49⟩, e59, e69⟩ := cf9); walk_at "MYD")))
local macro_rules | `(tactic| walk_at "MYMEM") => `(tactic| first | exact List.Mem.head _ | (refine List.Mem.tail _ ?_; walk_at "MYMEM") | (simp; done))
local macro_rules | `(tactic| walk_at "subscriptTail") => `(tactic| (k_here; (with_reducible show wpAny _ _ (subscriptTail _ _ (Value.ref _) (Value.str _ _)) _ _ _); k_dflt (refine' conv_item ?kN ?km ?kd ?ke ?_; (case kd => assumption); (case ke => assumption); (case kN => k_asm); (case km => walk_at "MYMEM"); k_whole)))
section
theorem last_item {prog : Program} {w : World} {A : Around} {E : Value → Shared → Prop} {s : Shared} {l : List Int} {c : Int} {t u : Tok} {value slice : PySem.Expr} {Q : Value → Shared → Prop} (h : ∀ t', Q (.str (tx [c]) t') { s with toks := s.toks + 1 })
    (hs : subscripted slice false (.str (tx (l ++ [c])) t) (.int (-1) u) = operate [.str (tx (l ++ [c])) t, .int (-1) u] (getItem (.str (tx (l ++ [c])) t) (.int (-1) u)) := by with_unfolding_all rfl) :
    wpAny (model prog w) A (subscriptTail value slice (.str (tx (l ++ [c])) t) (.int (-1) u)) Q E s := by
  refine tail_any (typeIs_str s _ t) slot_str_getitem.lookup (PySem.P.getItem_str (c := c.toNat) (by decide) ?_ (h _)) hs
  have e : (tx (l ++ [c])).length = l.length + 1 := by show (tx (l ++ [c])).cps.size = _; rw [tx_size]; simp
  rw [e]
  have : seqIndex? (-1) (l.length + 1) = some l.length := by
    unfold seqIndex?
    simp
    omega
  rw [this]
  simp [tx]
theorem no_item {prog : Program} {w : World} {A : Around} {E : Value → Shared → Prop} {s : Shared} {t u : Tok} {value slice : PySem.Expr} {Q : Value → Shared → Prop} (hh : A.handled = none) (h : ∀ h' tk' e, Heap.NewExc s.heap h' e "IndexError" → E (.ref e) { s with heap := h', toks := tk' })
    (hs : subscripted slice false (.str (tx []) t) (.int (-1) u) = operate [.str (tx []) t, .int (-1) u] (getItem (.str (tx []) t) (.int (-1) u)) := by with_unfolding_all rfl) :
    wpAny (model prog w) A (subscriptTail value slice (.str (tx []) t) (.int (-1) u)) Q E s :=
  tail_any (typeIs_str s _ t) slot_str_getitem.lookup (getItem_meets (typeIs_str s _ t) (by decide) PySem.F.slot_str_getitem PySem.F.entry_str_getitem (PySem.F.args_str_getitem_2 _ _) (raises_str_getitem _ (-1) t u (by decide) rfl) ⟨hh, fun h' tk' e hx => h h' tk' e hx⟩) hs
end
local macro_rules | `(tactic| walk_at "subscriptTail") => `(tactic| (k_here; (with_reducible show wpAny _ _ (subscriptTail _ _ (Value.str (tx (_ ++ [_])) _) (Value.int (-1) _)) _ _ _); (k_dflt ((refine' last_item ?_; k_whole; intro tq9)))))
local macro_rules | `(tactic| walk_at "subscriptTail") => `(tactic| (k_here; (with_reducible show wpAny _ _ (subscriptTail _ _ (Value.str (tx []) _) (Value.int (-1) _)) _ _ _); (k_dflt (refine' no_item ?kh ?_; (case kh => exact rfl); k_whole; intro h9 tk9 e9 hx9))))
section
noncomputable def CtG (W : Wd) (need : Nat) (pos : List Value) (kw : List (Str × Value)) (l : List Int) (bad : Bool) : Prop :=
  ∀ (dp un : Nat) (gd : Option (List Code)) (cn : Str) (cs : Scope) (a : Addr) (ccd : Value) (cl : List (Str × Addr)) (outer : List Env) (A₀ : Around) (base h₀ : Heap) (L : Addr) (m : Str → Option Value) (s : Shared) (Q E : Value → Shared → Prop),
    Below A₀ base outer h₀ → Fr h₀ L s.heap m → (hd.heap_39 W.w.params).In h₀ → Top hd.view_39 Loo W.mean W.mg W.mb h₀ → cs.kind = .function →
    (hd.heap_39 W.w.params).In base → Top hd.view_39 Loo W.mean W.mg W.mb base → KtsDicts (outer.filterMap (·.frame)) h₀ →
    dp + need < recursionLimit → un + 8 * need < cLine →
    (bad = false → ∀ q t t' h' tk' gs', Kp s.heap h' → GOk s.gens gs' → s.heap.objs.size ≤ q → h'.get? q = some { cls := .type "tuple", data := .seq #[.str (tx l) t, .int 0 t'] } → Q (.ref q) { s with heap := h', toks := tk', gens := gs' }) →
    (bad = true → ∀ e h' tk', raIdx base s.heap (envX cn cs L a ccd cl :: outer) e h' → s.heap.UpToSlots h' → E (.ref e) { s with heap := h', toks := tk' }) →
    wpAny (model Prg W.w) (ktrTop dp un gd cn cs L a ccd cl outer) (call (.ref 96) pos kw) Q E s
theorem ct_groupM (W : Wd) (l : List Int) (ts : Tok) : CtG W 4 [.str (tx l) ts] [(Str.ofString "monetary", .bool true)] l false := by
  intro dp un gd cn cs a ccd cl outer A₀ base h₀ L m s Q E B F X T hk XB TB D hdp hun hret herr
  walk_at "MYFILL"
  refine wpAny_call ?_
  k_dflt (refine' code_def0 (binds := [(Str.ofString "s", .str (tx l) ts), (Str.ofString "monetary", .bool true)]) ?k1 ?k2 ?k3 ?k5 ?kA ?kF ?kK ?k6 ?k7 ?k8 ?k9 ?kB ?_ ?c2 ?c3 ?c4 ?c5; (case kA => exact rfl); (case kF => exact rfl); (case kK => assumption); (case k1 => k_asm); (case k2 => k_asm); (case k3 => k_asm); (case k5 => k_asm); (case k6 => k_is); (case k7 => k_is); (case k8 => walk_at "MYROOM"); (case k9 => first | exact BindsTo.of_eq rfl | exact binds_K (X.keeps F.keep) rfl (by k_is) rfl rfl rfl | (refine' kp_binds ?kx ?ke; (case kx => exact X.keeps F.keep); (case ke => exact fun _ => rfl))); (case c5 => decide); (case kB => exact locs rfl); (case c2 => exact rfl); (case c3 => exact rfl); (case c4 => exact rfl); k_whole; intro L1 h1 F1 N1 B1 X1 T1; (try dsimp only [List.reverse_cons, List.reverse_nil, List.nil_append, List.cons_append, List.append_eq] at F1); (try dsimp only); (try k_fold))
  have D1 := dicts_push (env := envX cn cs L a ccd cl) D F rfl
  k_steps
  exact hret rfl _ _ _ _ _ _ (Fr.keep (by assumption : Fr s.heap L1 _ _)) id (by omega) (News.get (by assumption : News s.heap L1 _ _) (.head _))
theorem cte_errI {base : Heap} {l : List Env} {e : Addr} {h' : Heap} {s : Shared} {E : Value → Shared → Prop} {tk' : Nat} {news : Led} (herr : ∀ e h' tk', raIdx base s.heap l e h' → s.heap.UpToSlots h' → E (.ref e) { s with heap := h', toks := tk' }) (R : RaisedSN base s.heap l e (.type "IndexError") news h') (U : s.heap.UpToSlots h') : E (.ref e) { s with heap := h', toks := tk' } :=
  herr e h' tk' (let ⟨B, a0, h1, h2, _, h4⟩ := R; ⟨B, a0, h1, h2, fun _ h => (nomatch h), h4⟩) U
theorem ct_group0 (W : Wd) (ts : Tok) : CtG W 4 [.str (tx []) ts] [(Str.ofString "monetary", .bool false)] [] true := by
  intro dp un gd cn cs a ccd cl outer A₀ base h₀ L m s Q E B F X T hk XB TB D hdp hun hret herr
  walk_at "MYFILL"
  refine wpAny_call ?_
  k_dflt (refine' code_def0 (binds := [(Str.ofString "s", .str (tx []) ts), (Str.ofString "monetary", .bool false)]) ?k1 ?k2 ?k3 ?k5 ?kA ?kF ?kK ?k6 ?k7 ?k8 ?k9 ?kB ?_ ?c2 ?c3 ?c4 ?c5; (case kA => exact rfl); (case kF => exact rfl); (case kK => assumption); (case k1 => k_asm); (case k2 => k_asm); (case k3 => k_asm); (case k5 => k_asm); (case k6 => k_is); (case k7 => k_is); (case k8 => walk_at "MYROOM"); (case k9 => first | exact BindsTo.of_eq rfl | exact binds_K (X.keeps F.keep) rfl (by k_is) rfl rfl rfl | (refine' kp_binds ?kx ?ke; (case kx => exact X.keeps F.keep); (case ke => exact fun _ => rfl))); (case c5 => decide); (case kB => exact locs rfl); (case c2 => exact rfl); (case c3 => exact rfl); (case c4 => exact rfl); k_whole; intro L1 h1 F1 N1 B1 X1 T1; (try dsimp only [List.reverse_cons, List.reverse_nil, List.nil_append, List.cons_append, List.append_eq] at F1); (try dsimp only); (try k_fold))
  have D1 := dicts_push (env := envX cn cs L a ccd cl) D F rfl
  k_steps
  exact cte_errI (herr rfl) (by assumption) (by assumption)
end
section
noncomputable def GiAt (M : Model) (A : Around) (G : Heap) (g₀ : Array GenState) (v : Value) (s' : Shared) : Prop :=
  (∀ Q E, Q v s' → wpAny M A (pyIter v) Q E s') ∧ ∀ (Q : Option Value → Shared → Prop) E, (∀ h'' gs'' tk'', Kp G h'' → GOk g₀ gs'' → Q none { s' with heap := h'', gens := gs'', toks := tk'' }) → wpAny M A (pyNext v) Q E s'
theorem bare_push {g : Array GenState} {x : GenState} (h : AllBare g) (hx : x.bare = true) : AllBare (g.push x) := by
  intro y hy
  rcases Array.mem_push.mp hy with hy | rfl
  · exact h y hy
  · exact hx
theorem bare_set {g : Array GenState} {i : Nat} {x : GenState} (h : AllBare g) (hx : x.bare = true) : AllBare (g.setIfInBounds i x) := by
  intro y hy
  rcases Array.mem_or_eq_of_mem_setIfInBounds hy with hy | rfl
  · exact h y hy
  · exact hx
section
variable {prog : Program} {w : World} {A₀ A : Around} {s : Shared} {base h₀ : Heap} {outer : List Env} {L : Addr} {m : Str → Option Value} {env : Env} {K : Frag} {p : Program} {loose : List Str} {mean : ExcName → Option Value} {mg mb : Str → Option Value}
    {R : Result → Shared → Prop} {name qual : Str} {params : Arguments} {body : List Stmt} {scope : Scope} {dV kV doc pm cdv ct oc : Value} {an od : Option Addr} {osl : Array (Option Value)} {f : Addr} {args : Args}
theorem code_gen0 {binds : List (Str × Value)} (B : Below A₀ base outer h₀) (F : Fr h₀ L s.heap m) (X₀ : K.In h₀) (T : Top p loose mean mg mb h₀) (hA : A.frames = some (env :: outer)) (hf : env.frame = some L) (hke : env.scope.kind = .function)
    (ho : K.lookup f = some ⟨oc, od, .func (fnOf name qual params body scope dV kV doc pm an cdv ct), osl⟩) (hcd : codeIn K cdv qual = true) (hroom : A.depth < recursionLimit) (hh : A.handled = none) {A1 : Around} (hA1 : A1 = A.in1)
    (hbind : BindsTo s (fnOf name qual params body scope dV kV doc pm an cdv ct) args binds) (hloc : ∀ y ∈ binds, scope.names.lookup y.1 = some .local)
    (h : ∀ L' s1, Fr s.heap L' s1.heap (fun y => binds.reverse.lookup y) → News s.heap L' s1.heap [] → Below A1 base (env :: outer) s.heap → K.In s.heap → Top p loose mean mg mb s.heap →
      wpAny (model prog w) (A1.deeper (envOf qual scope L' f cdv)) (execs body (envOf qual scope L' f cdv))
        (fun fl s' => (match fl with | .ret v => v | _ => .none) = .none ∧ ∃ h' tk', s' = { s1 with heap := h', toks := tk' } ∧ Kp s.heap h') (fun _ _ => False) s1)
    (hR : ∀ g h' tk' gs', Kp s.heap h' → GiAt (model prog w) A s.heap s.gens (.ref g) { s with heap := h', toks := tk', gens := gs' } → R (.ok (.ret (.ref g))) { s with heap := h', toks := tk', gens := gs' })
    (hco : scope.isCoroutine = false) (hgen : scope.isGenerator = true) (hk : scope.kind = .function) (hcell : ∀ x ∈ scope.names, x.2 ≠ .cell) : codeAny (model prog w) A (.call (.ref f) args) R s := by
  subst hA1
  have X := X₀.keeps F.keep
  refine codeAny_call_generator (fd := fnOf name qual params body scope dV kV doc pm an cdv ct) (body := body) hroom (X _ _ ho) rfl hco hgen rfl (codeRec_of X hcd) (hbind _ _ _ _ ?_)
  refine wpAny_newFunctionEnv hcell hloc (fun h₁ hns₁ hsb₁ => ⟨(T.nolimit.keeps F.keep).fresh _ hsb₁, ?_⟩) hk
  have k1 : Kp s.heap h₁ := fun b o e => hsb₁.extBut b o (Nat.ne_of_lt (Heap.lt_size e)) (Heap.get?_push_of_some _ e)
  refine hR _ _ _ _ (fun b o e => Heap.get?_push_of_some _ (k1 b o e)) ⟨fun Q E hq => ?_, fun Q E hq => ?_⟩
  · exact wpAny_pyIter_gen (g := s.gens.size) ⟨_, _, _, Heap.get?_push_size _ rfl, rfl, rfl, rfl⟩ hq
  · refine wpAny_pyNext_gen (g := s.gens.size) (n := 0) (gs := .fresh (.func body (envOf qual scope s.heap.objs.size f cdv))) (P := fun n s₀ s₁ => ∃ h' tk', s₁ = { s₀ with heap := h', toks := tk' } ∧ Kp s.heap h') (Y := fun _ _ _ _ _ => False)
      hh ?_ hroom ⟨_, _, _, Heap.get?_push_size _ rfl, rfl, rfl, rfl⟩ (by simp; rfl) ⟨rfl, seg_func (seg_wrap ?_)⟩ (fun _ _ _ hf => hf.elim) ?_
    · exact (T.nolimit.keeps F.keep).keeps fun b o e => Heap.get?_push_of_some _ (k1 b o e)
    · refine wpAny_units_le (A := A.in1.deeper (envOf qual scope s.heap.objs.size f cdv)) (wpAny_mono (h s.heap.objs.size _ ⟨hns₁.push _, fun b o e => Heap.get?_push_of_some _ (k1 b o e), Nat.le_refl _⟩ News.nil (below0 (A := A.in1) B F hA hf hke) X (T.keeps F.keep)) (fun fl s' hl => ?_) fun _ _ hf => hf.elim) ?_
      · obtain ⟨e, hp⟩ := hl
        cases fl with
        | ret v =>
          obtain rfl : v = .none := e
          exact seg_end (.ok (.ret .none)) ⟨rfl, hp⟩
        | next => exact seg_end (.ok (.ret .none)) ⟨rfl, hp⟩
        | brk => exact seg_end (.ok (.ret .none)) ⟨rfl, hp⟩
        | cont => exact seg_end (.ok (.ret .none)) ⟨rfl, hp⟩
      · exact Nat.le_refl _
    · rintro s₁ ⟨h', tk', rfl, hk'⟩ h'' hk''
      exact hq _ _ _ (fun b o e => hk'' b o (hk' b o e)) fun hb => bare_set (bare_set (bare_push hb rfl) rfl) rfl
end
theorem ct_gi (W : Wd) (p : Addr) (t : Tok) {dp un : Nat} {gd : Option (List Code)} {cn : Str} {cs : Scope} {a : Addr} {ccd : Value} {cl : List (Str × Addr)} {outer : List Env} {A₀ : Around} {base h₀ : Heap} {L : Addr} {m : Str → Option Value} {s : Shared} {Q E : Value → Shared → Prop}
    (B : Below A₀ base outer h₀) (F : Fr h₀ L s.heap m) (X : (hd.heap_39 W.w.params).In h₀) (T : Top hd.view_39 Loo W.mean W.mg W.mb h₀) (hk : cs.kind = .function) (hp : s.heap.get? p = some (PySem.W.listOf #[.int 127 t] 0))
    (hdp : dp + 2 < recursionLimit) (hun : un + 8 * 2 < cLine)
    (hret : ∀ g h' tk' gs', Kp s.heap h' → GiAt (model Prg W.w) (ktrTop dp un gd cn cs L a ccd cl outer) s.heap s.gens (.ref g) { s with heap := h', toks := tk', gens := gs' } → Q (.ref g) { s with heap := h', toks := tk', gens := gs' }) :
    wpAny (model Prg W.w) (ktrTop dp un gd cn cs L a ccd cl outer) (call (.ref 88) [.ref p] []) Q E s := by
  walk_at "MYFILL"
  refine wpAny_call ?_
  k_dflt (refine' code_gen0 (A1 := ktrTop dp (un + 1) gd cn cs L a ccd cl outer) (hA1 := rfl) (binds := [(Str.ofString "grouping", .ref p)]) ?k1 ?k2 ?k3 ?k5 ?kA ?kF ?kK ?k6 ?k7 ?k8 ?kH ?k9 ?kB ?_ ?kR ?c2 ?c3 ?c4 ?c5; (case kA => exact rfl); (case kF => exact rfl); (case kH => exact rfl); (case kK => assumption); (case k1 => k_asm); (case k2 => k_asm); (case k3 => k_asm); (case k5 => k_asm); (case k6 => k_is); (case k7 => k_is); (case k8 => walk_at "MYROOM"); (case k9 => first | exact BindsTo.of_eq rfl | exact binds_K (X.keeps F.keep) rfl (by k_is) rfl rfl rfl | (refine' kp_binds ?kx ?ke; (case kx => exact X.keeps F.keep); (case ke => exact fun _ => rfl))); (case c5 => decide); (case kB => exact locs rfl); (case c2 => exact rfl); (case c3 => exact rfl); (case c4 => exact rfl); (case kR => exact fun g h' tk' gs' k1 k2 => hret g h' tk' gs' k1 k2); k_whole; intro L1 s1 F1 N1 B1 X1 T1; (try dsimp only [List.reverse_cons, List.reverse_nil, List.nil_append, List.cons_append, List.append_eq] at F1); (try dsimp only); (try k_fold))
  k_steps
  walk_at "MYFOR"
  k_steps
  refine Hold.mk ?_
  rename News _ _ _ _ => nE
  rename Fr _ _ _ _ => fE
  refine iter_invN (vs := [.int 127 t]) (ns := [127]) (fun i m' nx => i = 0 ∧ nx = [] ∧ ∀ z, z ≠ Str.ofString "interval" → m' z = if z = Str.ofString "last_interval" then some .none else if z = Str.ofString "grouping" then some (.ref p) else none) rfl ⟨_, hp, rfl, _, rfl⟩ (.cons 127 t .nil) fE nE ⟨rfl, rfl, ?_⟩ ?_ ?_
  · intro z _
    show (if z = Str.ofString "last_interval" then some Value.none else List.lookup z [(Str.ofString "grouping", Value.ref p)]) = _
    by_cases h1 : z = Str.ofString "grouping"
    · subst h1; rfl
    · have : (z == Str.ofString "grouping") = false := by simpa using h1
      simp only [List.lookup, this, if_neg h1]
  · rintro i n t' m₁ nx h tk own hn hnx hoff ⟨rfl, rfl, hm⟩ FB NB
    obtain rfl : (127 : Int) = n := Option.some.inj hn
    clear fE nE
    k_steps
  · rintro m₁ nx h tk ⟨hi, rfl, hm⟩ FB NB
    cases hi
end
section
theorem truthy_tx {prog : Program} {w : World} {A : Around} {E : Value → Shared → Prop} {s : Shared} {l : List Int} {c : Int} {t : Tok} {Q : Bool → Shared → Prop} (hl : l.length ≤ 100) (h : Q true { s with toks := s.toks + 1 + 1 }) : wpAny (model prog w) A (truthy (.str (tx (l ++ [c])) t)) Q E s := by
  have e : (tx (l ++ [c])).length = l.length + 1 := by show (tx (l ++ [c])).cps.size = _; rw [tx_size]; simp
  refine SBL.truthy (by rw [e]; omega) ?_
  have : (((tx (l ++ [c])).length : Int) != 0) = true := by rw [e]; simp; omega
  rw [this]; exact h
theorem join_one {prog : Program} {w : World} {A : Around} {E : Value → Shared → Prop} {s : Shared} {D : Addr} {x y : Str} {t u : Tok} {n : Nat} {Q : Value → Shared → Prop} {h₀ : Heap} {L : Addr} {news : Led} (N : News h₀ L s.heap news) (hm : (D, PySem.W.listOf #[.str y u] n) ∈ news) (hx : x.length ≤ 16) (hy : y.length ≤ 1000)
    (h : ∀ t' k, Q (.str y t') { s with toks := k }) : wpAny (model prog w) A (call (.builtin "str.join") [.str x t, .ref D]) Q E s :=
  join_listW (ys := [y]) (items := #[.str y u]) ⟨_, N.get hm, rfl, _, rfl⟩ (.cons y u .nil) hx (by simp; omega) fun t' k => (show Txt.join x [y] = y from rfl) ▸ h t' k
theorem tx_short {l : List Int} (h : l.length ≤ 999) (c : Int) : (tx (l ++ [c])).length ≤ 1000 := by
  show (tx (l ++ [c])).cps.size ≤ _; rw [tx_size]; simp; omega
theorem str_nil_app (y : Str) : Str.ofString "" ++ y = y := by
  obtain ⟨c⟩ := y
  show (⟨(Str.ofString "").cps ++ c⟩ : Str) = _
  rw [show (Str.ofString "").cps = #[] from by decide +kernel, Array.empty_append]
theorem str_app_nil (y : Str) : y ++ Str.ofString "" = y := by
  obtain ⟨c⟩ := y
  show (⟨c ++ (Str.ofString "").cps⟩ : Str) = _
  rw [show (Str.ofString "").cps = #[] from by decide +kernel, Array.append_empty]
theorem add_l {prog : Program} {w : World} {A : Around} {E : Value → Shared → Prop} {s : Shared} {y : Str} {t u : Tok} {Q : Value → Shared → Prop} (hy : y.length ≤ 1000) (h : ∀ t' k, Q (.str y t') { s with toks := k }) : wpAny (model prog w) A (binaryOp .Add (.str (Str.ofString "") t) (.str y u)) Q E s :=
  SB.add (fun t' k => by rw [str_nil_app]; exact h t' k) (by rw [sizeLine_eq]; have : (Str.ofString "").length = 0 := by decide +kernel
                                                             omega)
theorem add_r {prog : Program} {w : World} {A : Around} {E : Value → Shared → Prop} {s : Shared} {y : Str} {t u : Tok} {Q : Value → Shared → Prop} (hy : y.length ≤ 1000) (h : ∀ t' k, Q (.str y t') { s with toks := k }) : wpAny (model prog w) A (binaryOp .Add (.str y t) (.str (Str.ofString "") u)) Q E s :=
  SB.add (fun t' k => by rw [str_app_nil]; exact h t' k) (by rw [sizeLine_eq]; have : (Str.ofString "").length = 0 := by decide +kernel
                                                             omega)
end
local macro_rules | `(tactic| walk_at "truthy str") => `(tactic| (k_here; (with_reducible show wpAny _ _ (truthy (Value.str (tx (_ ++ [_])) _)) _ _ _); (k_dflt (refine' truthy_tx ?kz ?_; (case kz => walk_at "MYSIZE"); k_whole))))
section
local macro_rules | `(tactic| walk_at "exec For Name Call cons nil") => `(tactic| (k_here; k_dflt (refine' wpAny_For ?kh (by intro _; rfl); k_whole)))
local macro_rules | `(tactic| walk_at "binaryOp Add str str") => `(tactic| (k_here; k_dflt (first | ((with_reducible refine' add_l ?ky ?_); (case ky => exact tx_short (by omega) _); k_whole; intro tj9 kj9) | ((with_reducible refine' add_r ?ky ?_); (case ky => exact tx_short (by omega) _); k_whole; intro tj9 kj9))))
local macro_rules | `(tactic| walk_at "call builtin:str.join") => `(tactic| (k_here; k_dflt (refine' join_one ?kN ?km ?kx ?ky ?_; (case kN => k_asm); (case km => walk_at "MYMEM"); (case kx => decide); (case ky => exact tx_short (by omega) _); k_whole; intro tj9 kj9)))
theorem ct_group1 (W : Wd) (l : List Int) (c : Int) (ts : Tok) (hl : l.length ≤ 100) (hc : (tx [c] == Str.ofString " ") = false) : CtG W 4 [.str (tx (l ++ [c])) ts] [(Str.ofString "monetary", .bool false)] (l ++ [c]) false := by
  intro dp un gd cn cs a ccd cl outer A₀ base h₀ L m s Q E B F X T hk XB TB D hdp hun hret herr
  walk_at "MYFILL"
  refine wpAny_call ?_
  k_dflt (refine' code_def0 (binds := [(Str.ofString "s", .str (tx (l ++ [c])) ts), (Str.ofString "monetary", .bool false)]) ?k1 ?k2 ?k3 ?k5 ?kA ?kF ?kK ?k6 ?k7 ?k8 ?k9 ?kB ?_ ?c2 ?c3 ?c4 ?c5; (case kA => exact rfl); (case kF => exact rfl); (case kK => assumption); (case k1 => k_asm); (case k2 => k_asm); (case k3 => k_asm); (case k5 => k_asm); (case k6 => k_is); (case k7 => k_is); (case k8 => walk_at "MYROOM"); (case k9 => first | exact BindsTo.of_eq rfl | exact binds_K (X.keeps F.keep) rfl (by k_is) rfl rfl rfl | (refine' kp_binds ?kx ?ke; (case kx => exact X.keeps F.keep); (case ke => exact fun _ => rfl))); (case c5 => decide); (case kB => exact locs rfl); (case c2 => exact rfl); (case c3 => exact rfl); (case c4 => exact rfl); k_whole; intro L1 h1 F1 N1 B1 X1 T1; (try dsimp only [List.reverse_cons, List.reverse_nil, List.nil_append, List.cons_append, List.append_eq] at F1); (try dsimp only); (try k_fold))
  have D1 := dicts_push (env := envX cn cs L a ccd cl) D F rfl
  k_steps
  rename News _ _ _ _ => nG
  rename Fr _ _ _ _ => fG
  have hp9 := nG.get (.tail _ (.tail _ (.head _)))
  k_dflt (refine' ct_gi W _ _ ?kB ?kF ?kX ?kT ?kK hp9 ?kD ?kU ?_; (case kB => k_asm); (case kF => k_asm); (case kX => k_asm); (case kT => k_asm); (case kK => first | exact rfl | assumption); (case kD => walk_at "MYROOM"); (case kU => walk_at "MYUNITS"))
  intro g h' tk' gs' K G
  refine G.1 _ _ ?_
  refine codeAny_forLoop (fun n s₂ => n = 0 ∧ s₂ = _) ?_ 0 ⟨rfl, rfl⟩
  rintro n s₂ ⟨rfl, rfl⟩
  refine G.2 _ _ ?_
  intro h'' gs'' tk'' K2 G2
  have fG2 := fG.after K2
  have nG2 := nG.grown K2
  clear fG nG K G
  clear K2
  dsimp only at fG2 nG2 G2 ⊢
  refine wpAny_pure ?_
  dsimp only
  k_steps
  exact hret rfl _ _ _ _ _ _ (Fr.keep (by assumption : Fr s.heap L1 _ _)) G2 (by omega) (News.get (by assumption : News s.heap L1 _ _) (.head _))
end
section
theorem tx_list {l : List Int} : (tx l).cps.toList = l.map Int.toNat := by simp [tx]
theorem dot_str : Str.ofString "." = (⟨#[46]⟩ : Str) := by decide +kernel
theorem nil_str : Str.ofString "" = (⟨#[]⟩ : Str) := by decide +kernel
theorem nat_ne {c : Int} (h : 0 ≤ c) : (c.toNat != 46) = (c != 46) := by
  by_cases e : c = 46
  · subst e; rfl
  · have h1 : (c != 46) = true := by simpa using e
    have h2 : c.toNat ≠ 46 := by omega
    rw [h1]; simpa using h2
theorem tx_tw : ∀ {l : List Int}, Ch l → (l.map Int.toNat).takeWhile (· != 46) = (l.takeWhile (· != 46)).map Int.toNat
  | [], _ => rfl
  | c :: l, h => by
    have ih := tx_tw (l := l) fun x hx => h x (.tail _ hx)
    have hc := nat_ne (h c (.head _)).1
    rw [List.map_cons, List.takeWhile_cons, hc, List.takeWhile_cons]
    cases (c != 46)
    · rfl
    · simp [ih]
theorem tx_fl : ∀ {l : List Int}, Ch l → (l.map Int.toNat).filter (· != 46) = (l.filter (· != 46)).map Int.toNat
  | [], _ => rfl
  | c :: l, h => by
    have ih := tx_fl (l := l) fun x hx => h x (.tail _ hx)
    have hc := nat_ne (h c (.head _)).1
    rw [List.map_cons, List.filter_cons, hc, List.filter_cons]
    cases (c != 46)
    · simpa using ih
    · simp [ih]
theorem str_of_list {x : Str} {l : List Int} (h : x.cps.toList = l.map Int.toNat) : x = tx l := by
  obtain ⟨c⟩ := x
  have : c = (l.map Int.toNat).toArray := by rw [← h]
  rw [this]; rfl
theorem call_split {prog : Program} {w : World} {A : Around} {E : Value → Shared → Prop} {s : Shared} {h₀ : Heap} {L : Addr} {m : Str → Option Value} {news : Led} {l : List Int} {t u : Tok} {Q : Value → Shared → Prop} (F : Fr h₀ L s.heap m) (N : News h₀ L s.heap news) (hc : Ch l) (hl : l.length ≤ 100)
    (h : ∀ D tp lr r h' k, StrsAre (strValues lr) r → Txt.join (Str.ofString ".") (tx (l.takeWhile (· != 46)) :: r) = tx l → Txt.join (Str.ofString "") (tx (l.takeWhile (· != 46)) :: r) = tx (l.filter (· != 46)) → ((tx (l.takeWhile (· != 46)) :: r).map (·.length)).sum + (tx (l.takeWhile (· != 46)) :: r).length ≤ 200 →
      Fr h₀ L h' m → News h₀ L h' ((D, PySem.W.listOf (Value.str (tx (l.takeWhile (· != 46))) tp :: strValues lr).toArray 0) :: news) → (∀ p ∈ news, p.1 < D) → Q (.ref D) { s with heap := h', toks := k }) :
    wpAny (model prog w) A (call (.builtin "str.split") [.str (tx l) t, .str (Str.ofString ".") u]) Q E s := by
  refine KSpl.split1 F N (by decide +kernel) (fun D lv h' k e a F' N' lt => ?_) ?_
  · obtain ⟨p, r, hs, hj, hh, hf⟩ := split_facts (tx l) 46
    rw [dot_str, hs] at e
    obtain ⟨tp, lr, rfl, er⟩ := KSpl.cons_of e
    rw [tx_list, tx_tw hc] at hh
    rw [tx_list, tx_fl hc] at hf
    have hp := str_of_list hh
    have hw := split_weight hj
    subst hp
    refine h D tp lr r h' k ?_ (by rw [dot_str]; exact hj) (by rw [nil_str]; exact str_of_list hf) ?_ F' N' lt
    · rw [← er]; exact strsAre_of_values lr
    · rw [hw]
      have : (tx l).length = l.length := by show (tx l).cps.size = _; exact tx_size l
      omega
  · have : (tx l).length = l.length := by show (tx l).cps.size = _; exact tx_size l
    rw [sizeLine_eq]; omega
theorem join_split {prog : Program} {w : World} {A : Around} {E : Value → Shared → Prop} {s : Shared} {h₀ : Heap} {L D : Addr} {news : Led} {sep p y : Str} {r : List Str} {tp t : Tok} {lr : List (Str × Tok)} {n : Nat} {Q : Value → Shared → Prop} (N : News h₀ L s.heap news) (hm : (D, PySem.W.listOf (Value.str p tp :: strValues lr).toArray n) ∈ news)
    (ha : StrsAre (strValues lr) r) (hw : ((p :: r).map (·.length)).sum + (p :: r).length ≤ 200) (hs : sep.length ≤ 16) (hj : Txt.join sep (p :: r) = y) (h : ∀ t' k, Q (.str y t') { s with toks := k }) :
    wpAny (model prog w) A (call (.builtin "str.join") [.str sep t, .ref D]) Q E s :=
  join_listW (ys := p :: r) (items := (Value.str p tp :: strValues lr).toArray) ⟨_, N.get hm, rfl, _, rfl⟩ (.cons p tp ha) hs (by omega) fun t' k => hj ▸ h t' k
theorem no_dot {l : List Int} (hc : Ch l) (a : (Builtin.Str.occurrences (tx l) (Str.ofString ".") 0 (Str.length (tx l)) 1).isEmpty = true) : 46 ∉ l := by
  intro hm
  have := StrLaws.found_one (tx l) 46
  rw [dot_str] at a
  rw [tx_list] at this
  erw [a] at this
  have h2 : (46 : Nat) ∈ l.map Int.toNat := List.mem_map.mpr ⟨46, hm, rfl⟩
  simp [h2] at this
theorem filter_dot {l : List Int} (h : 46 ∉ l) : l.filter (· != 46) = l := by
  rw [List.filter_eq_self]
  intro c hc
  rw [bne_iff_ne]; rintro rfl; exact h hc
theorem if_dot {l : List Int} (h : 46 ∉ l) (m : Bool) : (if m then tx (l.filter (· != 46)) else tx l) = tx l := by
  rw [filter_dot h]; cases m <;> rfl
end
local macro_rules | `(tactic| walk_at "call builtin:str.split") => `(tactic| (k_here; k_dflt (refine' call_split ?kF ?kN ?kc ?kl ?_; (case kF => k_asm); (case kN => first | k_asm | exact News.nil); (case kc => assumption); (case kl => omega); k_whole; intro D9 tp9 lr9 r9 h9 k9 a9 j9 e9 w9 F9 N9 l9; (try k_lt l9))))
local macro_rules | `(tactic| walk_at "call builtin:str.join") => `(tactic| (k_here; k_dflt (refine' join_split ?kN ?km ?ka ?kw ?ks ?kj ?_; (case kN => k_asm); (case km => walk_at "MYMEM"); (case ka => assumption); (case kj => assumption); (case kw => assumption); (case ks => decide); k_whole; intro tj9 kj9)))
section
theorem ct_loc0 (W : Wd) (l : List Int) (ts : Tok) (m : Bool) (hc : Ch l) (hl : l.length ≤ 90) : CtE W 8 111 [.str (tx l) ts, .bool false, .bool m] [] (some fun t => .str (if m then tx (l.filter (· != 46)) else tx l) t) raIdx := by
  intro dp un gd cn cs a ccd cl outer A₀ base h₀ L m' s Q E B F X T hk XB TB D hdp hun hret herr
  walk_at "MYFILL"
  refine wpAny_call ?_
  k_dflt (refine' code_def0 (binds := [(Str.ofString "formatted", .str (tx l) ts), (Str.ofString "grouping", .bool false), (Str.ofString "monetary", .bool m)]) ?k1 ?k2 ?k3 ?k5 ?kA ?kF ?kK ?k6 ?k7 ?k8 ?k9 ?kB ?_ ?c2 ?c3 ?c4 ?c5; (case kA => exact rfl); (case kF => exact rfl); (case kK => assumption); (case k1 => k_asm); (case k2 => k_asm); (case k3 => k_asm); (case k5 => k_asm); (case k6 => k_is); (case k7 => k_is); (case k8 => walk_at "MYROOM"); (case k9 => first | exact BindsTo.of_eq rfl | exact binds_K (X.keeps F.keep) rfl (by k_is) rfl rfl rfl | (refine' kp_binds ?kx ?ke; (case kx => exact X.keeps F.keep); (case ke => exact fun _ => rfl))); (case c5 => decide); (case kB => exact locs rfl); (case c2 => exact rfl); (case c3 => exact rfl); (case c4 => exact rfl); k_whole; intro L1 h1 F1 N1 B1 X1 T1; (try dsimp only [List.reverse_cons, List.reverse_nil, List.nil_append, List.cons_append, List.append_eq] at F1); (try dsimp only); (try k_fold))
  have D1 := dicts_push (env := envX cn cs L a ccd cl) D F rfl
  k_steps
  · exact cte_ret hret _ rfl ts (by rw [if_dot (no_dot hc (by assumption)) m]) (by assumption)
  · obtain rfl : m = true := by assumption
    exact cte_ret hret _ rfl _ rfl (by assumption)
  · obtain rfl : m = false := by assumption
    exact cte_ret hret _ rfl _ rfl (by assumption)
end
section
noncomputable abbrev tupO (l : List Int) (t t' : Tok) : Obj := { cls := .type "tuple", data := .seq #[.str (tx l) t, .int 0 t'] }
theorem CtG.use {W : Wd} {need : Nat} {pos : List Value} {kw : List (Str × Value)} {l : List Int} {bad : Bool}
  {dp un : Nat} {gd : Option (List Code)} {cn : Str} {cs : Scope} {a : Addr} {ccd : Value} {cl : List (Str × Addr)} {outer : List Env} {A₀ : Around} {base h₀ : Heap} {L : Addr} {m : Str → Option Value} {news : Led} {s : Shared} {Q E : Value → Shared → Prop}
    (C : CtG W need pos kw l bad) (B : Below A₀ base outer h₀) (F : Fr h₀ L s.heap m) (X : (hd.heap_39 W.w.params).In h₀) (N : News h₀ L s.heap news) (T : Top hd.view_39 Loo W.mean W.mg W.mb h₀) (hk : cs.kind = .function)
    (XB : (hd.heap_39 W.w.params).In base) (TB : Top hd.view_39 Loo W.mean W.mg W.mb base) (D : KtsDicts (outer.filterMap (·.frame)) h₀) (hd : dp + need < recursionLimit) (hu : un + 8 * need < cLine)
    (ret : bad = false → ∀ q t t' h' tk' gs', Fr h₀ L h' m → News h₀ L h' ((q, tupO l t t') :: news) → (∀ p ∈ news, p.1 < q) → GOk s.gens gs' → Q (.ref q) { s with heap := h', toks := tk', gens := gs' })
    (err : bad = true → ∀ e h' tk', raIdx base s.heap (envX cn cs L a ccd cl :: outer) e h' → s.heap.UpToSlots h' → E (.ref e) { s with heap := h', toks := tk' }) :
    wpAny (model Prg W.w) (ktrTop dp un gd cn cs L a ccd cl outer) (call (.ref 96) pos kw) Q E s := by
  refine C _ _ _ _ _ _ _ _ _ _ _ _ _ _ _ _ _ B F X T hk XB TB D hd hu (fun hb q t t' h' tk' gs' k g hq hg => ?_) err
  refine ret hb q t t' h' tk' gs' (F.after k) (fun p hp => ?_) (fun p hp => Nat.lt_of_lt_of_le (Heap.lt_size (N p hp).1) hq) g
  rcases List.mem_cons.mp hp with rfl | hp
  · exact nw_at F hq hg
  · exact N.grown k p hp
end
local macro_rules | `(tactic| walk_at "MYGRP") => `(tactic| ((case kB => k_asm); (case kF => k_asm); (case kX => k_asm); (case kN => first | k_asm | exact News.nil); (case kT => k_asm); (case kK => first | exact rfl | assumption); (case kXB => k_asm); (case kTB => k_asm); (case kDD => k_asm); (case kD => walk_at "MYROOM"); (case kU => walk_at "MYUNITS")))
section
local macro_rules | `(tactic| walk_at "call ref") => `(tactic| ((with_reducible refine atR 96 ?_); k_dflt (refine' CtG.use (ct_groupM _ _ _) ?kB ?kF ?kX ?kN ?kT ?kK ?kXB ?kTB ?kDD ?kD ?kU ?_ (fun hb => nomatch hb); walk_at "MYGRP"); (intro hb9 q9 t9 u9 h9 tk9 gs9 F9 N9 l9 G9; (try k_lt l9); walk_at "MYD")))
theorem ct_locM (W : Wd) (l : List Int) (ts : Tok) (hc : Ch l) (hl : l.length ≤ 90) : CtE W 8 111 [.str (tx l) ts, .bool true, .bool true] [] (some fun t => .str (tx (l.filter (· != 46))) t) raIdx := by
  intro dp un gd cn cs a ccd cl outer A₀ base h₀ L m' s Q E B F X T hk XB TB D hdp hun hret herr
  walk_at "MYFILL"
  refine wpAny_call ?_
  k_dflt (refine' code_def0 (binds := [(Str.ofString "formatted", .str (tx l) ts), (Str.ofString "grouping", .bool true), (Str.ofString "monetary", .bool true)]) ?k1 ?k2 ?k3 ?k5 ?kA ?kF ?kK ?k6 ?k7 ?k8 ?k9 ?kB ?_ ?c2 ?c3 ?c4 ?c5; (case kA => exact rfl); (case kF => exact rfl); (case kK => assumption); (case k1 => k_asm); (case k2 => k_asm); (case k3 => k_asm); (case k5 => k_asm); (case k6 => k_is); (case k7 => k_is); (case k8 => walk_at "MYROOM"); (case k9 => first | exact BindsTo.of_eq rfl | exact binds_K (X.keeps F.keep) rfl (by k_is) rfl rfl rfl | (refine' kp_binds ?kx ?ke; (case kx => exact X.keeps F.keep); (case ke => exact fun _ => rfl))); (case c5 => decide); (case kB => exact locs rfl); (case c2 => exact rfl); (case c3 => exact rfl); (case c4 => exact rfl); k_whole; intro L1 h1 F1 N1 B1 X1 T1; (try dsimp only [List.reverse_cons, List.reverse_nil, List.nil_append, List.cons_append, List.append_eq] at F1); (try dsimp only); (try k_fold))
  have D1 := dicts_push (env := envX cn cs L a ccd cl) D F rfl
  k_steps
  · rw [filter_dot (no_dot hc (by assumption))] at hret
    exact hret _ rfl _ _ _ _ (Fr.keep (by assumption : Fr s.heap L1 _ _)) (by assumption)
  · exact hret _ rfl _ _ _ _ (Fr.keep (by assumption : Fr s.heap L1 _ _)) (by assumption)
theorem ct_groupT (W : Wd) (l : List Int) (ts : Tok) (hl : l.length ≤ 100) (hb : 32 ∉ l) : CtG W 4 [.str (tx l) ts] [(Str.ofString "monetary", .bool false)] l l.isEmpty := by
  rcases List.eq_nil_or_concat l with rfl | ⟨r, c, rfl⟩
  · exact ct_group0 W ts
  · have e : (r.concat c).isEmpty = false := by simp
    rw [e]
    rw [List.concat_eq_append] at *
    refine ct_group1 W r c ts (by simp at hl; omega) ?_
    have hc : c ≠ 32 := fun h => hb (by simp [h])
    rw [beq_eq_false_iff_ne]
    intro e2
    have e3 : (tx [c]).cps.toList = [32] := by rw [e2]; decide +kernel
    rw [tx_list] at e3
    simp at e3
    omega
theorem tw_le {l : List Int} (h : l.length ≤ 90) : (l.takeWhile (· != 46)).length ≤ 100 := by
  have := (List.takeWhile_sublist (l := l) (· != 46)).length_le
  omega
theorem tw_no {l : List Int} (h : 32 ∉ l) : 32 ∉ l.takeWhile (· != 46) := fun hm => h ((List.takeWhile_sublist _).subset hm)
theorem tw_self {l : List Int} (h : 46 ∉ l) : l.takeWhile (· != 46) = l := by
  induction l with
  | nil => rfl
  | cons c l ih =>
    have hc : (c != 46) = true := by rw [bne_iff_ne]; rintro rfl; exact h (.head _)
    rw [List.takeWhile_cons, hc, ih fun hm => h (.tail _ hm)]; rfl
local macro_rules | `(tactic| walk_at "call ref") => `(tactic| ((with_reducible refine atR 96 ?_); k_dflt (refine' CtG.use (ct_groupT _ _ _ ?kh0 ?kh1) ?kB ?kF ?kX ?kN ?kT ?kK ?kXB ?kTB ?kDD ?kD ?kU ?_ ?_; (case kh0 => first | (exact tw_le (by assumption)) | omega); (case kh1 => first | assumption | (exact tw_no (by assumption))); walk_at "MYGRP"); (intro hb9 q9 t9 u9 h9 tk9 gs9 F9 N9 l9 G9; (try k_lt l9); walk_at "MYD"); rotate_left; (intro hb9 e9 h9 tk9 hR9 hU9; (unfold raIdx at hR9); walk_at "MYD"); rotate_left))
noncomputable abbrev spG (l : List Int) : Option (Tok → Value) := (if (l.takeWhile (· != 46)).isEmpty then none else some ()).map fun _ t => .str (tx l) t
theorem spG_some {l : List Int} (e : (l.takeWhile (· != 46)).isEmpty = false) : spG l = some fun t => .str (tx l) t := by unfold spG; rw [e]; rfl
theorem spG_none {l : List Int} (e : (l.takeWhile (· != 46)).isEmpty = true) : spG l = none := by unfold spG; rw [e]; rfl
theorem ct_locG (W : Wd) (l : List Int) (ts : Tok) (hc : Ch l) (hl : l.length ≤ 90) (hb : 32 ∉ l) : CtE W 8 111 [.str (tx l) ts, .bool true, .bool false] [] (spG l) raIdx := by
  intro dp un gd cn cs a ccd cl outer A₀ base h₀ L m' s Q E B F X T hk XB TB D hdp hun hret herr
  walk_at "MYFILL"
  refine wpAny_call ?_
  k_dflt (refine' code_def0 (binds := [(Str.ofString "formatted", .str (tx l) ts), (Str.ofString "grouping", .bool true), (Str.ofString "monetary", .bool false)]) ?k1 ?k2 ?k3 ?k5 ?kA ?kF ?kK ?k6 ?k7 ?k8 ?k9 ?kB ?_ ?c2 ?c3 ?c4 ?c5; (case kA => exact rfl); (case kF => exact rfl); (case kK => assumption); (case k1 => k_asm); (case k2 => k_asm); (case k3 => k_asm); (case k5 => k_asm); (case k6 => k_is); (case k7 => k_is); (case k8 => walk_at "MYROOM"); (case k9 => first | exact BindsTo.of_eq rfl | exact binds_K (X.keeps F.keep) rfl (by k_is) rfl rfl rfl | (refine' kp_binds ?kx ?ke; (case kx => exact X.keeps F.keep); (case ke => exact fun _ => rfl))); (case c5 => decide); (case kB => exact locs rfl); (case c2 => exact rfl); (case c3 => exact rfl); (case c4 => exact rfl); k_whole; intro L1 h1 F1 N1 B1 X1 T1; (try dsimp only [List.reverse_cons, List.reverse_nil, List.nil_append, List.cons_append, List.append_eq] at F1); (try dsimp only); (try k_fold))
  have D1 := dicts_push (env := envX cn cs L a ccd cl) D F rfl
  k_steps
  · exact hret _ (spG_some (by rw [tw_self (no_dot hc (by assumption))]; assumption)) _ _ _ _ (Fr.keep (by assumption : Fr s.heap L1 _ _)) (by assumption)
  · exact cte_errI (herr (spG_none (by rw [tw_self (no_dot hc (by assumption))]; assumption))) (by assumption) (by assumption)
  · exact hret _ (spG_some (by assumption)) _ _ _ _ (Fr.keep (by assumption : Fr s.heap L1 _ _)) (by assumption)
  · exact cte_errI (herr (spG_none (by assumption))) (by assumption) (by assumption)
end
section
section
open PySem.Builtin PySem.Builtin.Str
noncomputable def statKey (o : Obj) : Option Value := match o.data with | .dict es _ => nsFind es sharingNotToldKey | _ => none
theorem stat_free (W : Wd) : ((hd.heap_39 W.w.params).lookup cStatics).map statKey = some none := by kernel_rfl
theorem none_bookedK (W : Wd) {h : Heap} (X : (hd.heap_39 W.w.params).In h) (T : h.NoLimit) : NoneBooked h := by
  obtain ⟨mc, hn, _⟩ := T
  obtain ⟨o, es, ep, ho, hd, hk, hf⟩ := id hn
  have e := stat_free W
  obtain ⟨o', e1, e2⟩ := Option.map_eq_some_iff.mp e
  have := X _ _ e1
  rw [ho] at this
  obtain rfl := Option.some.inj this
  refine ⟨mc, hn, ?_⟩
  rw [← hf]
  unfold statKey at e2
  rw [hd] at e2
  exact e2
theorem gives_rep (x y : PySem.Str) (t u v : Tok) (h0 : (u == 0 || v == 0) = false) (hl : tooLong (x.length + (occurrences x y 0 x.length (x.length + 1)).length * y.length) = false) :
    GivesAt (fun s => NoneBooked s.heap) («str.replace» ⟨[.str x t, .str y u, .str y v], []⟩)
      (if ((occurrences x y 0 x.length (x.length + 1)).isEmpty || (y.length == 0 && y.length == 0)) = true then .val (.str x t)
       else .either (.val (.str x t)) (.str (glued y (partsBetween x (occurrences x y 0 x.length (x.length + 1)) y.length)))) := by
  show GivesAt _ (if ((occurrences x y 0 x.length (x.length + 1)).isEmpty || (y.length == 0 && y.length == 0)) = true then (do rule "str.replace.nothing"; ret (.str x t)) else
          (do let same ← isSame (.str y u) (.str y v)
              if same = true then (do rule "str.replace.old-is-new"; ret (.str x t)) else
              if tooLong (x.length + (occurrences x y 0 x.length (x.length + 1)).length * y.length) = true then unsupported "str.replace:memory" else
              retStr (glued y (partsBetween x (occurrences x y 0 x.length (x.length + 1)) y.length)))) _
  cases hc : ((occurrences x y 0 x.length (x.length + 1)).isEmpty || (y.length == 0 && y.length == 0))
  · intro prog w A R s hb hq
    show wpAny _ _ (isSame (.str y u) (.str y v) >>= _) _ _ _
    refine wpAny_bind (wpAny_isSame_str h0 hb fun b => ?_)
    cases b
    · show wpAny _ _ (if tooLong (x.length + (occurrences x y 0 x.length (x.length + 1)).length * y.length) = true then _
                       else retStr (glued y (partsBetween x (occurrences x y 0 x.length (x.length + 1)) y.length))) _ _ _
      rw [hl]
      exact wpAny_bind (wpAny_mkStr (wpAny_pure hq.2.2) hq.2.1)
    · exact wpAny_bind (wpAny_rule (wpAny_pure hq.1))
  · exact Gives.at (.rule (.of_eq rfl))
theorem replace_dd {prog : Program} {w : World} {A : Around} {E : Value → Shared → Prop} {s : Shared} {x y : PySem.Str} {t u v : Tok} {Q : Value → Shared → Prop} (hu : u ≠ 0) (hv : v ≠ 0) (hb : x.length + (x.length + 1) * y.length ≤ 16777216)
    (hq : ∀ t' k, Q (.str x t') { s with toks := k }) (hnb : NoneBooked s.heap) : wpAny (model prog w) A (call (.builtin "str.replace") [.str x t, .str y u, .str y v]) Q E s := by
  have hl : tooLong (x.length + (occurrences x y 0 x.length (x.length + 1)).length * y.length) = false := by
    have h1 := StrLaws.occ_length_le x y 0 x.length (x.length + 1)
    have h2 : (occurrences x y 0 x.length (x.length + 1)).length * y.length ≤ (x.length + 1) * y.length := Nat.mul_le_mul_right _ h1
    unfold tooLong sizeLine
    exact decide_eq_false (by omega)
  refine call_givesAt F.slot_str_replace (typeIs_str _ _ _) F.entry_str_replace (F.args_str_replace_3 _ _ _)
    (gives_rep x y t u v (by simp [hu, hv]) hl) hnb ?_
  cases hc : ((occurrences x y 0 x.length (x.length + 1)).isEmpty || (y.length == 0 && y.length == 0))
  · simp only [Bool.false_eq_true, if_false]
    rw [StrLaws.glued_between_self]
    dsimp only [Made.post]
    refine ⟨hq t s.toks, ?_, hq _ _⟩
    have h3 : x.length ≤ 16777216 := Nat.le_trans (Nat.le_add_right _ _) hb
    rw [sizeLine_eq]; omega
  · simp only [if_true]
    exact hq t s.toks
end
theorem none_bookedF (W : Wd) {h₀ h : Heap} {L : Addr} {m : Str → Option Value} (X : (hd.heap_39 W.w.params).In h₀) (T : Top hd.view_39 Loo W.mean W.mg W.mb h₀) (F : Fr h₀ L h m) : NoneBooked h :=
  none_bookedK W (X.keeps F.keep) (T.keeps F.keep).nolimit
theorem tok_gen {M : Model} {A : Around} {α : Type} {t : Sem α} {Q : α → Shared → Prop} {E : Value → Shared → Prop} {s : Shared} {n : Nat} (h : ∀ tk, 0 < tk → wpAny M A t Q E { s with toks := tk }) : wpAny M A t Q E { s with toks := n + 1 } := h _ (Nat.succ_pos n)
end
local macro_rules | `(tactic| walk_at "call ref") => `(tactic| ((with_reducible refine atR 111 ?_); k_dflt (walk_at "MYUE"; (case' kC => refine' ct_loc0 _ _ _ _ ?kh0 ?kh1); walk_at "MYCTE"; walk_at "MYH2"; walk_at "MYNO"); walk_at "MYTLS"))
local macro_rules | `(tactic| walk_at "call ref") => `(tactic| ((with_reducible refine atR 111 ?_); k_dflt (walk_at "MYUE"; (case' kC => refine' ct_locM _ _ _ ?kh0 ?kh1); walk_at "MYCTE"; walk_at "MYH2"; walk_at "MYNO"); walk_at "MYTLS"))
local macro_rules | `(tactic| walk_at "call ref") => `(tactic| ((with_reducible refine atR 111 ?_); k_dflt (walk_at "MYUE"; (case' kC => refine' ct_locG _ _ _ ?kh0 ?kh1 ?kh2); walk_at "MYCTE"; walk_at "MYH3"); walk_at "MYTLI"))
section
theorem ct_lz1 (W : Wd) (l : List Int) (ts : Tok) (hc : Ch l) (hl : l.length ≤ 90) : CtE W 9 126 [.str (tx l) ts, .bool false, .bool true] [] (some fun t => .str (tx (l.filter (· != 46))) t) raIdx := by
  intro dp un gd cn cs a ccd cl outer A₀ base h₀ L m' s Q E B F X T hk XB TB D hdp hun hret herr
  walk_at "MYFILL"
  refine wpAny_call ?_
  k_dflt (refine' code_def0 (binds := [(Str.ofString "string", .str (tx l) ts), (Str.ofString "grouping", .bool false), (Str.ofString "monetary", .bool true)]) ?k1 ?k2 ?k3 ?k5 ?kA ?kF ?kK ?k6 ?k7 ?k8 ?k9 ?kB ?_ ?c2 ?c3 ?c4 ?c5; (case kA => exact rfl); (case kF => exact rfl); (case kK => assumption); (case k1 => k_asm); (case k2 => k_asm); (case k3 => k_asm); (case k5 => k_asm); (case k6 => k_is); (case k7 => k_is); (case k8 => walk_at "MYROOM"); (case k9 => first | exact BindsTo.of_eq rfl | exact binds_K (X.keeps F.keep) rfl (by k_is) rfl rfl rfl | (refine' kp_binds ?kx ?ke; (case kx => exact X.keeps F.keep); (case ke => exact fun _ => rfl))); (case c5 => decide); (case kB => exact locs rfl); (case c2 => exact rfl); (case c3 => exact rfl); (case c4 => exact rfl); k_whole; intro L1 h1 F1 N1 B1 X1 T1; (try dsimp only [List.reverse_cons, List.reverse_nil, List.nil_append, List.cons_append, List.append_eq] at F1); (try dsimp only); (try k_fold))
  have D1 := dicts_push (env := envX cn cs L a ccd cl) D F rfl
  k_steps
  exact hret _ rfl _ _ _ _ (Fr.keep (by assumption : Fr s.heap L1 _ _)) (by assumption)
theorem ct_lz2 (W : Wd) (l : List Int) (ts : Tok) (hc : Ch l) (hl : l.length ≤ 90) : CtE W 9 126 [.str (tx l) ts, .bool true, .bool true] [] (some fun t => .str (tx (l.filter (· != 46))) t) raIdx := by
  intro dp un gd cn cs a ccd cl outer A₀ base h₀ L m' s Q E B F X T hk XB TB D hdp hun hret herr
  walk_at "MYFILL"
  refine wpAny_call ?_
  k_dflt (refine' code_def0 (binds := [(Str.ofString "string", .str (tx l) ts), (Str.ofString "grouping", .bool true), (Str.ofString "monetary", .bool true)]) ?k1 ?k2 ?k3 ?k5 ?kA ?kF ?kK ?k6 ?k7 ?k8 ?k9 ?kB ?_ ?c2 ?c3 ?c4 ?c5; (case kA => exact rfl); (case kF => exact rfl); (case kK => assumption); (case k1 => k_asm); (case k2 => k_asm); (case k3 => k_asm); (case k5 => k_asm); (case k6 => k_is); (case k7 => k_is); (case k8 => walk_at "MYROOM"); (case k9 => first | exact BindsTo.of_eq rfl | exact binds_K (X.keeps F.keep) rfl (by k_is) rfl rfl rfl | (refine' kp_binds ?kx ?ke; (case kx => exact X.keeps F.keep); (case ke => exact fun _ => rfl))); (case c5 => decide); (case kB => exact locs rfl); (case c2 => exact rfl); (case c3 => exact rfl); (case c4 => exact rfl); k_whole; intro L1 h1 F1 N1 B1 X1 T1; (try dsimp only [List.reverse_cons, List.reverse_nil, List.nil_append, List.cons_append, List.append_eq] at F1); (try dsimp only); (try k_fold))
  have D1 := dicts_push (env := envX cn cs L a ccd cl) D F rfl
  k_steps
  exact hret _ rfl _ _ _ _ (Fr.keep (by assumption : Fr s.heap L1 _ _)) (by assumption)
theorem ct_lz3 (W : Wd) (l : List Int) (ts : Tok) (hc : Ch l) (hl : l.length ≤ 90) : CtE W 9 126 [.str (tx l) ts] [] (some fun t => .str (tx l) t) raIdx := by
  intro dp un gd cn cs a ccd cl outer A₀ base h₀ L m' s Q E B F X T hk XB TB D hdp hun hret herr
  walk_at "MYFILL"
  refine wpAny_call ?_
  k_dflt (refine' code_def0 (binds := [(Str.ofString "string", .str (tx l) ts), (Str.ofString "grouping", .bool false), (Str.ofString "monetary", .bool false)]) ?k1 ?k2 ?k3 ?k5 ?kA ?kF ?kK ?k6 ?k7 ?k8 ?k9 ?kB ?_ ?c2 ?c3 ?c4 ?c5; (case kA => exact rfl); (case kF => exact rfl); (case kK => assumption); (case k1 => k_asm); (case k2 => k_asm); (case k3 => k_asm); (case k5 => k_asm); (case k6 => k_is); (case k7 => k_is); (case k8 => walk_at "MYROOM"); (case k9 => first | exact BindsTo.of_eq rfl | exact binds_K (X.keeps F.keep) rfl (by k_is) rfl rfl rfl | (refine' kp_binds ?kx ?ke; (case kx => exact X.keeps F.keep); (case ke => exact fun _ => rfl))); (case c5 => decide); (case kB => exact locs rfl); (case c2 => exact rfl); (case c3 => exact rfl); (case c4 => exact rfl); k_whole; intro L1 h1 F1 N1 B1 X1 T1; (try dsimp only [List.reverse_cons, List.reverse_nil, List.nil_append, List.cons_append, List.append_eq] at F1); (try dsimp only); (try k_fold))
  have D1 := dicts_push (env := envX cn cs L a ccd cl) D F rfl
  k_steps
  exact hret _ rfl _ _ _ _ (Fr.keep (by assumption : Fr s.heap L1 _ _)) (by assumption)
theorem spG_of {l : List Int} {u : Unit} (h : (if (l.takeWhile (· != 46)).isEmpty then none else some ()) = some u) : spG l = some fun t => .str (tx l) t := by
  cases e : (l.takeWhile (· != 46)).isEmpty
  · exact spG_some e
  · rw [e] at h; cases h
theorem ct_lz4 (W : Wd) (l : List Int) (ts : Tok) (hc : Ch l) (hl : l.length ≤ 90) (hb : 32 ∉ l) : CtE W 9 126 [.str (tx l) ts, .bool true] [] (spG l) raIdx := by
  intro dp un gd cn cs a ccd cl outer A₀ base h₀ L m' s Q E B F X T hk XB TB D hdp hun hret herr
  walk_at "MYFILL"
  refine wpAny_call ?_
  k_dflt (refine' code_def0 (binds := [(Str.ofString "string", .str (tx l) ts), (Str.ofString "grouping", .bool true), (Str.ofString "monetary", .bool false)]) ?k1 ?k2 ?k3 ?k5 ?kA ?kF ?kK ?k6 ?k7 ?k8 ?k9 ?kB ?_ ?c2 ?c3 ?c4 ?c5; (case kA => exact rfl); (case kF => exact rfl); (case kK => assumption); (case k1 => k_asm); (case k2 => k_asm); (case k3 => k_asm); (case k5 => k_asm); (case k6 => k_is); (case k7 => k_is); (case k8 => walk_at "MYROOM"); (case k9 => first | exact BindsTo.of_eq rfl | exact binds_K (X.keeps F.keep) rfl (by k_is) rfl rfl rfl | (refine' kp_binds ?kx ?ke; (case kx => exact X.keeps F.keep); (case ke => exact fun _ => rfl))); (case c5 => decide); (case kB => exact locs rfl); (case c2 => exact rfl); (case c3 => exact rfl); (case c4 => exact rfl); k_whole; intro L1 h1 F1 N1 B1 X1 T1; (try dsimp only [List.reverse_cons, List.reverse_nil, List.nil_append, List.cons_append, List.append_eq] at F1); (try dsimp only); (try k_fold))
  have D1 := dicts_push (env := envX cn cs L a ccd cl) D F rfl
  k_steps
  · exact hret _ (spG_of (by assumption)) _ _ _ _ (Fr.keep (by assumption : Fr s.heap L1 _ _)) (by assumption)
  · exact cte_errI (herr (by assumption)) (by assumption) (by assumption)
theorem rep_fits {l : List Int} (hl : l.length ≤ 90) : (tx l).length + ((tx l).length + 1) * (Str.ofString ".").length ≤ 16777216 := by
  have h1 : (tx l).length = l.length := tx_size l
  have h2 : (Str.ofString ".").length = 1 := by decide +kernel
  rw [h1, h2]; omega
theorem truthy_dot {prog : Program} {w : World} {A : Around} {E : Value → Shared → Prop} {s : Shared} {t : Tok} {Q : Bool → Shared → Prop} (h : Q true { s with toks := s.toks + 1 + 1 }) : wpAny (model prog w) A (truthy (.str (Str.ofString ".") t)) Q E s := by
  have e : (Str.ofString ".").length = 1 := by decide +kernel
  refine SBL.truthy (by rw [e]; omega) ?_
  rw [e]; exact h
local macro_rules | `(tactic| walk_at "truthy str") => `(tactic| (k_here; (with_reducible show wpAny _ _ (truthy (Value.str (Str.ofString ".") _)) _ _ _); (k_dflt (refine' truthy_dot ?_; k_whole))))
local macro_rules | `(tactic| walk_at "execs cons") => `(tactic| (k_here; (with_reducible refine tok_gen ?_); intro tkg9 hkg9))
local macro_rules | `(tactic| walk_at "call builtin:str.replace") => `(tactic| (k_here; k_dflt (refine' replace_dd ?ku ?kv ?kb ?_ ?kn; (case kn => exact none_bookedF _ (by k_asm) (by k_asm) (by k_asm)); (case ku => exact Nat.succ_ne_zero _); (case kv => exact Nat.ne_of_gt (by assumption)); (case kb => exact rep_fits (by assumption)); k_whole; intro tj9 kj9)))
theorem ct_deloc (W : Wd) (l : List Int) (ts : Tok) (hl : l.length ≤ 90) : Ct0 W 4 118 [.str (tx l) ts] [] (fun _ => True) (fun t => .str (tx l) t) := by
  intro dp un gd cn cs a ccd cl outer A₀ base h₀ L m s Q E B F X T hk hpre hdp hun hret
  walk_at "MYFILL"
  refine wpAny_call ?_
  k_dflt (refine' code_def0 (binds := [(Str.ofString "string", .str (tx l) ts)]) ?k1 ?k2 ?k3 ?k5 ?kA ?kF ?kK ?k6 ?k7 ?k8 ?k9 ?kB ?_ ?c2 ?c3 ?c4 ?c5; (case kA => exact rfl); (case kF => exact rfl); (case kK => assumption); (case k1 => k_asm); (case k2 => k_asm); (case k3 => k_asm); (case k5 => k_asm); (case k6 => k_is); (case k7 => k_is); (case k8 => walk_at "MYROOM"); (case k9 => first | exact BindsTo.of_eq rfl | exact binds_K (X.keeps F.keep) rfl (by k_is) rfl rfl rfl | (refine' kp_binds ?kx ?ke; (case kx => exact X.keeps F.keep); (case ke => exact fun _ => rfl))); (case c5 => decide); (case kB => exact locs rfl); (case c2 => exact rfl); (case c3 => exact rfl); (case c4 => exact rfl); k_whole; intro L1 h1 F1 N1 B1 X1 T1; (try dsimp only [List.reverse_cons, List.reverse_nil, List.nil_append, List.cons_append, List.append_eq] at F1); (try dsimp only); (try k_fold))
  k_steps
  exact ct_ret hret _ rfl (by assumption)
end
section
/-! ## calls that catch: the callers' frames may turn in their slots -/
noncomputable def KpS (fs : List Addr) (g h' : Heap) : Prop := ∃ g', KtsTurn fs g g' ∧ Kp g' h'
noncomputable def LeaveT (R : Result → Shared → Prop) (v : Value) (s' : Shared) : Prop := R (.ok (.ret v)) s'
section
variable {prog : Program} {w : World} {A₀ A : Around} {s : Shared} {base h₀ : Heap} {outer : List Env} {L : Addr} {m : Str → Option Value} {env : Env} {K : Frag} {p : Program} {loose : List Str} {mean : ExcName → Option Value} {mg mb : Str → Option Value}
    {R : Result → Shared → Prop} {name qual : Str} {params : Arguments} {body : List Stmt} {scope : Scope} {dV kV doc pm cdv ct oc : Value} {an od : Option Addr} {osl : Array (Option Value)} {f : Addr} {args : Args}
theorem code_defT {binds : List (Str × Value)} (B : Below A₀ base outer h₀) (F : Fr h₀ L s.heap m) (X₀ : K.In h₀) (T : Top p loose mean mg mb h₀) (hA : A.frames = some (env :: outer)) (hf : env.frame = some L) (hke : env.scope.kind = .function)
    (ho : K.lookup f = some ⟨oc, od, .func (fnOf name qual params body scope dV kV doc pm an cdv ct), osl⟩) (hcd : codeIn K cdv qual = true) (hroom : A.depth < recursionLimit)
    (hbind : BindsTo s (fnOf name qual params body scope dV kV doc pm an cdv ct) args binds) (hloc : ∀ y ∈ binds, scope.names.lookup y.1 = some .local)
    (h : ∀ L' h₁, Fr s.heap L' h₁ (fun y => binds.reverse.lookup y) → News s.heap L' h₁ [] → Below A base (env :: outer) s.heap → K.In s.heap → Top p loose mean mg mb s.heap →
      wpAny (model prog w) (A.deeper (envOf qual scope L' f cdv)) (execs body (envOf qual scope L' f cdv))
        (fun fl s' => LeaveT R (match fl with | .ret v => v | _ => .none) s')
        (fun e s' => wpAny (model prog w) (A.deeper (envOf qual scope L' f cdv)) (leaving (envOf qual scope L' f cdv) e) (fun _ s'' => R (.error e) s'') (fun e' s'' => R (.error e') s'') s')
        { s with heap := h₁, toks := s.toks + binds.length })
    (hco : scope.isCoroutine = false) (hgen : scope.isGenerator = false) (hk : scope.kind = .function) (hcell : ∀ x ∈ scope.names, x.2 ≠ .cell) : codeAny (model prog w) A (.call (.ref f) args) R s := by
  have X := X₀.keeps F.keep
  refine codeAny_call_def (fd := fnOf name qual params body scope dV kV doc pm an cdv ct) (body := body) (binds := binds) hroom (X _ _ ho) rfl (T.nolimit.keeps F.keep) (codeRec_of X hcd) rfl hbind hcell hloc (fun h₁ hns hk₁ => ?_) hco hgen hk
  exact wpAny_mono (h s.heap.objs.size h₁ ⟨hns, hk₁, Nat.le_refl _⟩ News.nil (below0 B F hA hf hke) X (T.keeps F.keep)) (fun fl s' hl => hl) fun _ _ y => y
end
noncomputable def CtC (W : Wd) (need : Nat) (f : Addr) (pos : List Value) (kw : List (Str × Value)) (R : Tok → Value) : Prop :=
  ∀ (dp un : Nat) (gd : Option (List Code)) (cn : Str) (cs : Scope) (a : Addr) (ccd : Value) (cl : List (Str × Addr)) (outer : List Env) (A₀ : Around) (base h₀ : Heap) (L : Addr) (m : Str → Option Value) (s : Shared) (Q E : Value → Shared → Prop),
    Below A₀ base outer h₀ → Fr h₀ L s.heap m → (hd.heap_39 W.w.params).In h₀ → Top hd.view_39 Loo W.mean W.mg W.mb h₀ → cs.kind = .function →
    (hd.heap_39 W.w.params).In base → Top hd.view_39 Loo W.mean W.mg W.mb base → KtsDicts (outer.filterMap (·.frame)) h₀ →
    dp + need < recursionLimit → un + 8 * need < cLine →
    (∀ t h' tk' gs', KpS ((envX cn cs L a ccd cl :: outer).filterMap (·.frame)) s.heap h' → GOk s.gens gs' → Q (R t) { s with heap := h', toks := tk', gens := gs' }) →
    wpAny (model Prg W.w) (ktrTop dp un gd cn cs L a ccd cl outer) (call (.ref f) pos kw) Q E s
noncomputable def oB (o : Option (List Int)) (t : Tok) : Value := match o with | some l => .bytes (byteArr l) t | none => .none
noncomputable def oS (b : Bool) (l : List Int) (t : Tok) : Value := if b then .none else .str (tx l) t
end
local macro_rules | `(tactic| walk_at "call ref") => `(tactic| ((with_reducible refine atR 207 ?_); k_dflt (walk_at "MYUE"; (case' kC => refine' ct_b64dec _ _ _ _ _ _ _ ?kh0 ?kh1 ?kh2 ?kh3); walk_at "MYCTE"; walk_at "MYH4"); walk_at "MYTLE"))
section
theorem ct_read (W : Wd) (st : Bool) (l : List Int) (tt ta : Tok) (a0 a1 : UInt8) (hc : Ch l) (hl : l.length ≤ 100) (h0 : a0.toNat < 128) (h1 : a1.toNat < 128) :
    CtC W 4 224 [.str (tx l) tt, .bytes #[a0, a1] ta, .bool st] [] (oB (a2b st (l.map (trC a0.toNat a1.toNat 43 47)))) := by
  intro dp un gd cn cs a ccd cl outer A₀ base h₀ L m s Q E B F X T hk XB TB D hdp hun hret
  walk_at "MYFILL"
  refine wpAny_call ?_
  k_dflt (refine' code_defT (binds := [(Str.ofString "text", .str (tx l) tt), (Str.ofString "altchars", .bytes #[a0, a1] ta), (Str.ofString "strict", .bool st)]) ?k1 ?k2 ?k3 ?k5 ?kA ?kF ?kK ?k6 ?k7 ?k8 ?k9 ?kB ?_ ?c2 ?c3 ?c4 ?c5; (case kA => exact rfl); (case kF => exact rfl); (case kK => assumption); (case k1 => k_asm); (case k2 => k_asm); (case k3 => k_asm); (case k5 => k_asm); (case k6 => k_is); (case k7 => k_is); (case k8 => walk_at "MYROOM"); (case k9 => first | exact BindsTo.of_eq rfl | exact binds_K (X.keeps F.keep) rfl (by k_is) rfl rfl rfl | (refine' kp_binds ?kx ?ke; (case kx => exact X.keeps F.keep); (case ke => exact fun _ => rfl))); (case c5 => decide); (case kB => exact locs rfl); (case c2 => exact rfl); (case c3 => exact rfl); (case c4 => exact rfl); k_whole; intro L1 h1 F1 N1 B1 X1 T1; (try dsimp only [List.reverse_cons, List.reverse_nil, List.nil_append, List.cons_append, List.append_eq] at F1); (try dsimp only); (try k_fold))
  have D1 := dicts_push (env := envX cn cs L a ccd cl) D F rfl
  k_steps
  · rw [(by assumption : a2b st (l.map (trC a0.toNat a1.toNat 43 47)) = some _)] at hret
    exact hret _ _ _ _ ⟨s.heap, KtsTurn.refl, Fr.keep (by assumption : Fr s.heap L1 _ _)⟩ (by assumption)
  · rename KtsTurn _ _ _ => hT9
    rename Fr _ L1 _ _ => hF9
    have e9 : a2b st (l.map (trC a0.toNat a1.toNat 43 47)) = none := Option.map_eq_none_iff.mp (by assumption)
    rw [e9] at hret
    exact hret 0 _ _ _ ⟨_, hT9, hF9.keep⟩ id
end
local macro_rules | `(tactic| walk_at "call ref") => `(tactic| ((with_reducible refine atR 126 ?_); k_dflt (walk_at "MYUE"; (case' kC => refine' ct_lz4 _ _ _ ?kh0 ?kh1 ?kh2); walk_at "MYCTE"; walk_at "MYH3"); walk_at "MYTLI"))
section
theorem oS_of {l : List Int} {u : Unit} (h : (if (l.takeWhile (· != 46)).isEmpty then none else some ()) = some u) : (l.takeWhile (· != 46)).isEmpty = false := by
  cases e : (l.takeWhile (· != 46)).isEmpty
  · rfl
  · rw [e] at h; cases h
theorem oS_no {l : List Int} (h : spG l = none) : (l.takeWhile (· != 46)).isEmpty = true := by
  cases e : (l.takeWhile (· != 46)).isEmpty
  · rw [spG_some e] at h; cases h
  · rfl
theorem ct_grouped (W : Wd) (l : List Int) (ts : Tok) (hc : Ch l) (hl : l.length ≤ 90) (hb : 32 ∉ l) : CtC W 10 231 [.str (tx l) ts] [] (oS (l.takeWhile (· != 46)).isEmpty l) := by
  intro dp un gd cn cs a ccd cl outer A₀ base h₀ L m s Q E B F X T hk XB TB D hdp hun hret
  walk_at "MYFILL"
  refine wpAny_call ?_
  k_dflt (refine' code_defT (binds := [(Str.ofString "text", .str (tx l) ts)]) ?k1 ?k2 ?k3 ?k5 ?kA ?kF ?kK ?k6 ?k7 ?k8 ?k9 ?kB ?_ ?c2 ?c3 ?c4 ?c5; (case kA => exact rfl); (case kF => exact rfl); (case kK => assumption); (case k1 => k_asm); (case k2 => k_asm); (case k3 => k_asm); (case k5 => k_asm); (case k6 => k_is); (case k7 => k_is); (case k8 => walk_at "MYROOM"); (case k9 => first | exact BindsTo.of_eq rfl | exact binds_K (X.keeps F.keep) rfl (by k_is) rfl rfl rfl | (refine' kp_binds ?kx ?ke; (case kx => exact X.keeps F.keep); (case ke => exact fun _ => rfl))); (case c5 => decide); (case kB => exact locs rfl); (case c2 => exact rfl); (case c3 => exact rfl); (case c4 => exact rfl); k_whole; intro L1 h1 F1 N1 B1 X1 T1; (try dsimp only [List.reverse_cons, List.reverse_nil, List.nil_append, List.cons_append, List.append_eq] at F1); (try dsimp only); (try k_fold))
  have D1 := dicts_push (env := envX cn cs L a ccd cl) D F rfl
  k_steps
  · rw [oS_of (by assumption)] at hret
    exact hret _ _ _ _ ⟨s.heap, KtsTurn.refl, Fr.keep (by assumption : Fr s.heap L1 _ _)⟩ (by assumption)
  · rename KtsTurn _ _ _ => hT9
    rename Fr _ L1 _ _ => hF9
    rw [oS_no (by assumption)] at hret
    exact hret 0 _ _ _ ⟨_, hT9, hF9.keep⟩ id
end
section
section
variable {prog : Program} {w : World} {A₀ A : Around} {s : Shared} {base h₀ : Heap} {outer : List Env} {L : Addr} {m : Str → Option Value} {env : Env} {K : Frag} {p : Program} {loose : List Str} {mean : ExcName → Option Value} {mg mb : Str → Option Value}
    {R : Result → Shared → Prop} {name qual : Str} {params : Arguments} {body : List Stmt} {scope : Scope} {dV kV doc pm cdv ct oc : Value} {an od : Option Addr} {osl : Array (Option Value)} {f : Addr} {args : Args}
theorem code_defCT {binds : List (Str × Value)} (B : Below A₀ base outer h₀) (F : Fr h₀ L s.heap m) (X₀ : K.In h₀) (T : Top p loose mean mg mb h₀) (hA : A.frames = some (env :: outer)) (hf : env.frame = some L) (hke : env.scope.kind = .function)
    (ho : K.lookup f = some ⟨oc, od, .func (fnOf name qual params body scope dV kV doc pm an cdv ct), osl⟩) (hcd : codeIn K cdv qual = true) (hroom : A.depth < recursionLimit)
    (hbind : BindsTo s (fnOf name qual params body scope dV kV doc pm an cdv ct) args binds) (hkind : (binds.all fun y => scope.names.lookup y.1 == some .local || scope.names.lookup y.1 == some .cell) = true)
    (hnd : ((cellsFrom 0 scope.names []).map (·.1)).Nodup)
    (h : ∀ L' h₁ tk cells, Fr s.heap L' h₁ (bindL (envOfC qual scope L' f cdv).kindOf binds fun _ => none) → News s.heap L' h₁ cells →
      CellsAre (bindC (envOfC qual scope L' f cdv).kindOf binds fun _ => none) (cellsFrom (L' + 1) scope.names []) cells → Below A base (env :: outer) s.heap → K.In s.heap → Top p loose mean mg mb s.heap →
      wpAny (model prog w) (A.deeper (envOfC qual scope L' f cdv)) (execs body (envOfC qual scope L' f cdv))
        (fun fl s' => LeaveT R (match fl with | .ret v => v | _ => .none) s')
        (fun e s' => wpAny (model prog w) (A.deeper (envOfC qual scope L' f cdv)) (leaving (envOfC qual scope L' f cdv) e) (fun _ s'' => R (.error e) s'') (fun e' s'' => R (.error e') s'') s')
        { s with heap := h₁, toks := tk })
    (hco : scope.isCoroutine = false) (hgen : scope.isGenerator = false) (hk : scope.kind = .function) : codeAny (model prog w) A (.call (.ref f) args) R s := by
  have X := X₀.keeps F.keep
  refine codeAny_call_function hroom (X _ _ ho) rfl hco hgen rfl (codeRec_of X hcd) (hbind _ _ _ _ ?_)
  refine wpAny_newFunctionEnv_cells hk (kindsX hkind _) fun env' he s' x => ?_
  subst he
  refine ⟨(T.nolimit.keeps F.keep).keeps x.toInCall.keep, codeAny_func ?_⟩
  obtain ⟨h₁, tk, rfl, _⟩ := x.done
  have hk₁ := x.toInCall.keep
  obtain ⟨cells, NC, Y⟩ := Cl.news (h₀ := s.heap) (Nat.le_refl _) fun n c hm => ⟨x.cell n c (lookup_of_mem_nodup (cellsFrom_names scope.names 0 (s.heap.objs.size + 1) [] [] rfl ▸ hnd) hm), x.above n c hm⟩
  exact wpAny_mono (h s.heap.objs.size h₁ tk cells ⟨x.toInCall.ns, hk₁, Nat.le_refl _⟩ NC Y (below0 B F hA hf hke) X (T.keeps F.keep)) (fun fl s' hl => hl) fun _ _ y => y
end
section
variable {base h₀ h' : Heap} {outer : List Env} {A₀ : Around} {L : Addr} {m : Str → Option Value} {news : Led} {K : Frag} {p : Program} {loose : List Str} {mean : ExcName → Option Value} {mg mb : Str → Option Value} {env : Env}
theorem mem_frames {L : Addr} {env : Env} {outer : List Env} {b : Addr} (hf : env.frame = some L) (hb : b ∈ (env :: outer).filterMap (·.frame)) : b = L ∨ b ∈ outer.filterMap (·.frame) := by
  rw [List.filterMap_cons, hf] at hb
  exact List.mem_cons.mp hb
theorem turned {h : Heap} (F : Fr h₀ L h m) (N : News h₀ L h news) (B : Below A₀ base outer h₀) (D : KtsDicts (outer.filterMap (·.frame)) h₀) (XB : K.In base) (TB : Top p loose mean mg mb base) (hf : env.frame = some L) (hk : KpS ((env :: outer).filterMap (·.frame)) h h') :
    ∃ h₀', KtsTurn (outer.filterMap (·.frame)) h₀ h₀' ∧ Fr h₀' L h' m ∧ News h₀' L h' news ∧ Below A₀ base outer h₀' ∧ K.In h₀' ∧ Top p loose mean mg mb h₀' ∧ KtsDicts (outer.filterMap (·.frame)) h₀' := by
  obtain ⟨g', T', K'⟩ := hk
  have nL₀ : h₀.get? L = none := kts_self F
  have up : ∀ b o, h.get? b = some o → ∃ sl, h'.get? b = some { o with slots := sl } := fun b o e => by
    obtain ⟨sl, hs⟩ := T'.up e
    exact ⟨sl, K' _ _ hs⟩
  have off : ∀ b o, h.get? b = some o → b ≠ L → b ∉ outer.filterMap (·.frame) → h'.get? b = some o := fun b o e n1 n2 => K' _ _ (T'.other b o e fun hm => by
    rcases mem_frames hf hm with z | z
    · exact n1 z
    · exact n2 z)
  obtain ⟨T₁, S₁⟩ := kts_turn_at (h := h') (fs := outer.filterMap (·.frame)) (g := h₀)
    (fun b hb => by
      obtain ⟨_, o, ho', _⟩ := B.frames.mem hb
      exact ⟨o, ho'⟩)
    (fun b o e nmem => off b o (F.keep _ _ e) (fun z => by rw [z, nL₀] at e; cases e) nmem)
    (fun b o e hm => up b o (F.keep _ _ e))
  have B₃ : Below A₀ base outer (ktsHeap h' (outer.filterMap (·.frame)) h₀) := ⟨B.stack, fun b o e => T₁.other b o (B.stays b o e) (fun hm => by
    rw [(B.frames.mem hm).1] at e
    cases e), B.frames.of_keeps fun b o e _ => by
    obtain ⟨sl', hs'⟩ := T₁.up e
    exact ⟨_, hs', rfl⟩⟩
  have FN : Heap.Ns h' L m := by
    obtain ⟨oL, es, ep, hL, hLd, hLk, hLf⟩ := F.ns
    obtain ⟨sl, hs⟩ := up _ _ hL
    exact ⟨_, es, ep, hs, hLd, hLk, hLf⟩
  refine ⟨_, T₁, ⟨FN, S₁, by rw [T₁.size]; exact F.above⟩, fun q hq => ?_, B₃, XB.keeps B₃.stays, TB.keeps B₃.stays, D.turn T₁⟩
  obtain ⟨n1, n2, n3⟩ := N q hq
  exact ⟨off _ _ n1 n2 (fun hm => by
    obtain ⟨_, o, ho', _⟩ := B.frames.mem hm
    rw [n3] at ho'; cases ho'), n2, T₁.none_ _ n3⟩
end
theorem CtC.use {W : Wd} {need f : Nat} {pos : List Value} {kw : List (Str × Value)} {R : Tok → Value}
  {dp un : Nat} {gd : Option (List Code)} {cn : Str} {cs : Scope} {a : Addr} {ccd : Value} {cl : List (Str × Addr)} {outer : List Env} {A₀ : Around} {base g₀ h₀ : Heap} {L : Addr} {m : Str → Option Value} {news : Led} {s : Shared} {Q E : Value → Shared → Prop}
    (C : CtC W need f pos kw R) (B : Below A₀ base outer h₀) (F : Fr h₀ L s.heap m) (X : (hd.heap_39 W.w.params).In h₀) (N : News h₀ L s.heap news) (T : Top hd.view_39 Loo W.mean W.mg W.mb h₀) (hk : cs.kind = .function)
    (XB : (hd.heap_39 W.w.params).In base) (TB : Top hd.view_39 Loo W.mean W.mg W.mb base) (D : KtsDicts (outer.filterMap (·.frame)) h₀) (T0 : KtsTurn (outer.filterMap (·.frame)) g₀ h₀) (hdr : dp + need < recursionLimit) (hu : un + 8 * need < cLine)
    (ret : ∀ h₀' t h' tk' gs', KtsTurn (outer.filterMap (·.frame)) g₀ h₀' → Fr h₀' L h' m → News h₀' L h' news → Below A₀ base outer h₀' → (hd.heap_39 W.w.params).In h₀' → Top hd.view_39 Loo W.mean W.mg W.mb h₀' → KtsDicts (outer.filterMap (·.frame)) h₀' → GOk s.gens gs' →
      Q (R t) { s with heap := h', toks := tk', gens := gs' }) :
    wpAny (model Prg W.w) (ktrTop dp un gd cn cs L a ccd cl outer) (call (.ref f) pos kw) Q E s :=
  C _ _ _ _ _ _ _ _ _ _ _ _ _ _ _ _ _ B F X T hk XB TB D hdr hu fun t h' tk' gs' hK hG => by
    obtain ⟨h₀', a1, a2, a3, a4, a5, a6, a7⟩ := turned F N B D XB TB rfl hK
    exact ret h₀' t h' tk' gs' (T0.trans a1) a2 a3 a4 a5 a6 a7 hG
end
local macro_rules | `(tactic| walk_at "MYUC") => `(tactic| refine' CtC.use ?kC ?kB ?kF ?kX ?kN ?kT ?kK ?kXB ?kTB ?kDD ?kT0 ?kD ?kU ?_)
local macro_rules | `(tactic| walk_at "MYCTC") => `(tactic| (walk_at "MYCTE"; (case kT0 => first | assumption | exact KtsTurn.refl)))
local macro_rules | `(tactic| walk_at "call ref") => `(tactic| ((with_reducible refine atR 217 ?_); k_dflt (refine' CtN.use (ct_figures _ _ _ ?kh0 ?kh1) ?kB ?kF ?kX ?kN ?kT ?kK ?kP ?kD ?kU ?_; walk_at "MYCT0"; walk_at "MYH2"); (intro q9 o9 h9 tk9 ho9 F9 N9 hl9; (try k_lt hl9); (obtain ⟨vs9, n9, hE9, hI9⟩ := ho9); (subst hE9); walk_at "MYD")))
local macro_rules | `(tactic| walk_at "call ref") => `(tactic| ((with_reducible refine atR 199 ?_); k_dflt (walk_at "MYU0"; (case' kC => refine' ct_b64enc _ _ _ _ _ _ ?kh0 ?kh1 ?kh2 ?kh3); walk_at "MYCT0"; walk_at "MYH4"); walk_at "MYTL0"))
local macro_rules | `(tactic| walk_at "call ref") => `(tactic| ((with_reducible refine atR 126 ?_); k_dflt (walk_at "MYUE"; (case' kC => refine' ct_lz1 _ _ _ ?kh0 ?kh1); walk_at "MYCTE"; walk_at "MYH2"; walk_at "MYNO"); walk_at "MYTLS"))
local macro_rules | `(tactic| walk_at "call ref") => `(tactic| ((with_reducible refine atR 126 ?_); k_dflt (walk_at "MYUE"; (case' kC => refine' ct_lz2 _ _ _ ?kh0 ?kh1); walk_at "MYCTE"; walk_at "MYH2"; walk_at "MYNO"); walk_at "MYTLS"))
local macro_rules | `(tactic| walk_at "call ref") => `(tactic| ((with_reducible refine atR 126 ?_); k_dflt (walk_at "MYUE"; (case' kC => refine' ct_lz3 _ _ _ ?kh0 ?kh1); walk_at "MYCTE"; walk_at "MYH2"; walk_at "MYNO"); walk_at "MYTLS"))
local macro_rules | `(tactic| walk_at "call ref") => `(tactic| ((with_reducible refine atR 118 ?_); k_dflt (walk_at "MYU0"; (case' kC => refine' ct_deloc _ _ _ ?kh0); walk_at "MYCT0"; walk_at "MYH1"); walk_at "MYTL0"))
local macro_rules | `(tactic| walk_at "exec Assign cons ListComp") => `(tactic| (k_here; k_dflt (refine LCt.Assign_ListComp_T (F₀ := by k_asm) (by rfl) (by with_unfolding_all rfl) (by with_unfolding_all rfl) (by decide) (by rfl) (by decide) (by rfl) (by rfl) (by rfl) ?_)))
local macro_rules | `(tactic| walk_at "CompSrcT") => `(tactic| (k_here; (refine Hold.out ?_)))
section
theorem foldl_keep (d : Int) (l : List Int) : l.foldl (fun l k => if k != d then l ++ [k] else l) [] = l.filter (· != d) := by
  have : ∀ (l r : List Int), l.foldl (fun l k => if k != d then l ++ [k] else l) r = r ++ l.filter (· != d) := by
    intro l
    induction l with
    | nil => intro r; simp
    | cons a l ih =>
      intro r
      rw [List.foldl_cons, ih, List.filter_cons]
      cases (a != d) <;> simp
  simpa using this l []
theorem keep_grows (d : Int) : KPfGrows (fun l k => if k != d then l ++ [k] else l) := by
  intro l k
  show (if k != d then l ++ [k] else l).length ≤ l.length + 1
  cases (k != d) <;> simp
theorem figs_size {ks : List Int} {vs : List Value} (hl : ks.length ≤ 9) (h : IntsAre vs (figures ks)) : vs.toArray.size ≤ sizeLine := by
  rw [List.size_toArray, h.length, figures_len, sizeLine_eq]; omega
theorem cut {M : Model} {A : Around} {α : Type} {t : Sem α} {Q : α → Shared → Prop} {E : Value → Shared → Prop} {s : Shared} (P : α → Shared → Prop) (h : wpAny M A t P E s) (k : ∀ v s', P v s' → Q v s') : wpAny M A t Q E s := wpAny_mono h k fun _ _ e => e
theorem figs12 {ks : List Int} (hl : ks.length ≤ 9) : (figures ks).length ≤ 12 := by rw [figures_len]; omega
theorem kept12 {ks : List Int} {d : Int} (hl : ks.length ≤ 9) : ((figures ks).filter (· != d)).length ≤ 12 := Nat.le_trans (List.length_filter_le _ _) (figs12 hl)
theorem kept_in {ks : List Int} {d : Int} : ∀ c ∈ (figures ks).filter (· != d), 0 ≤ c ∧ c < 64 := kp_in
end
local macro_rules | `(tactic| walk_at "call builtin:len") => `(tactic| (k_here; (with_reducible show wpAny _ _ (call (Value.builtin "len") [Value.ref _]) _ _ _); k_dflt (refine' kst_len ?k1 ?k2 ?k3 ?k4 ?_; (case k1 => k_asm); (case k2 => walk_at "MYMEM"); (case k3 => exact IntsAre.length (by assumption)); (case k4 => omega); k_whole); (try dsimp only)))
local macro_rules | `(tactic| walk_at "eval IfExp") => `(tactic| (k_here; (refine Hold.out ?_)))
section
theorem lst_is {h : Heap} {l : Addr} {vs : List Value} (e : h.get? l = some (LCg.lst vs)) : h.IsList l vs.toArray := ⟨_, e, rfl, _, rfl⟩
end
local macro_rules | `(tactic| walk_at "call ref") => `(tactic| ((with_reducible refine atR 212 ?_); k_dflt (walk_at "MYU0"; (case' kC => refine' ct_octets _ _ _ _ ?kh0 ?kh1 ?kh2); walk_at "MYCTB"; (first | ((case kh0 => assumption); (case kP => exact lst_is (News.get (by k_asm) (by walk_at "MYMEM")))) | ((case kP => is_list); walk_at "MYH1")); (case kh1 => walk_at "MYHY"); (case kh2 => walk_at "MYHY")); walk_at "MYTL0"))
section
noncomputable def TokIs (R : Tok → Value) (s : Shared) (v : Value) (s' : Shared) : Prop := ∃ u tk', v = R u ∧ s' = { s with toks := tk' }
theorem cut_tok {M : Model} {A : Around} {t : Sem Value} {Q : Value → Shared → Prop} {E : Value → Shared → Prop} {s : Shared} (R : Tok → Value) (h : wpAny M A t (TokIs R s) E s) (k : ∀ u tk', Q (R u) { s with toks := tk' }) : wpAny M A t Q E s :=
  wpAny_mono h (fun v s' ⟨u, tk', e1, e2⟩ => by subst e1; subst e2; exact k u tk') fun _ _ e => e
theorem TokIs.mk {R : Tok → Value} {s : Shared} {v : Value} {tk : Nat} (u : Tok) (e : v = R u) : TokIs R s v { s with toks := tk } := ⟨u, tk, e, rfl⟩
theorem ov_int (d : Int) (ks : List Int) : Int.fmod (((figures ks).filter (· != d)).length : Int) 4 = (over d ks : Int) := by
  rw [Int.fmod_eq_emod_of_nonneg _ (by decide)]; unfold over kp; omega
theorem pad_int (n : Nat) : Int.fmod (-(n : Int)) 4 = (padN n : Int) := by
  rw [Int.fmod_eq_emod_of_nonneg _ (by decide)]; unfold padN; omega
theorem due_yes {d : Int} {ks : List Int} {t : Tok} (h : Int.fmod (((figures ks).filter (· != d)).length : Int) 4 = 0 ∨ (1 < Int.fmod (((figures ks).filter (· != d)).length : Int) 4 ∧ 3 < Int.fmod (((figures ks).filter (· != d)).length : Int) 4 + Int.fmod (-((figures ks).length : Int)) 4)) :
    Value.bytes (byteArr (octets ((figures ks).filter (· != d)))) t = oB (dueOf d ks) t := by
  rw [ov_int, pad_int] at h
  unfold dueOf
  rw [if_pos (by omega)]; rfl
theorem due_no {d : Int} {ks : List Int} {t : Tok} (h : ¬ (Int.fmod (((figures ks).filter (· != d)).length : Int) 4 = 0 ∨ (1 < Int.fmod (((figures ks).filter (· != d)).length : Int) 4 ∧ 3 < Int.fmod (((figures ks).filter (· != d)).length : Int) 4 + Int.fmod (-((figures ks).length : Int)) 4))) :
    Value.none = oB (dueOf d ks) t := by
  rw [ov_int, pad_int] at h
  unfold dueOf
  rw [if_neg (by omega)]; rfl
theorem dec_tx {prog : Program} {w : World} {A : Around} {E : Value → Shared → Prop} {s : Shared} {l : List Int} {t u : Tok} {Q : Value → Shared → Prop} (hc : Ch l) (hl : l.length ≤ 90) (h : ∀ t' k, Q (.str (tx l) t') { s with toks := k }) :
    wpAny (model prog w) A (call (.builtin "bytes.decode") [.bytes (byteArr l) t, .str (Str.ofString "ascii") u]) Q E s :=
  call_decode (byteArr_lt hc) (by rw [byteArr_size]; omega) fun t' k => by rw [byteArr_dec hc]; exact h t' k
theorem wr_map (ks : List Int) (a0 a1 : Int) : List.map (trC 43 47 a0 a1) (b2a ks) = wr ks a0 a1 := rfl
theorem wr_90 {ks : List Int} (hl : ks.length ≤ 9) {a0 a1 : Int} : (wr ks a0 a1).length ≤ 90 := Nat.le_trans wr_len (by omega)
end
local macro_rules | `(tactic| walk_at "call builtin:bytes.decode") => `(tactic| (k_here; (try simp only [wr_map]); k_dflt (refine' dec_tx ?hc ?hl ?_; (case hc => assumption); (case hl => assumption); k_whole; intro _ _)))
local macro_rules | `(tactic| walk_at "eval ListComp") => `(tactic| (k_here; (refine Hold.out ?_)))
section
theorem strike_tx {l : List Int} (hc : Ch l) : Txt.join (Str.ofString "") ((signs (tx l)).filter fun a => !a == (⟨#[46]⟩ : Str)) = tx (l.filter (· != 46)) := by
  rw [nil_str, filter_signs]
  show PySem.Builtin.Str.glued ⟨#[]⟩ _ = _
  rw [StrLaws.glued_eq_join, join_ones, tx_list, tx_fl hc]
  rfl
theorem strike_weight {l : List Int} (hc : Ch l) (hl : l.length ≤ 90) : (((signs (tx l)).filter fun a => !a == (⟨#[46]⟩ : Str)).map (·.length)).sum + ((signs (tx l)).filter fun a => !a == (⟨#[46]⟩ : Str)).length ≤ 1048576 := by
  rw [filter_signs, tx_list, tx_fl hc]
  have h1 : ∀ l : List Nat, ((l.map fun k => (⟨#[k]⟩ : Str)).map (·.length)).sum = l.length := by
    intro l
    induction l with
    | nil => rfl
    | cons a l ih => rw [List.map_cons, List.map_cons, List.sum_cons, ih, List.length_cons]; show 1 + _ = _; omega
  rw [h1]
  simp only [List.length_map]
  have := List.length_filter_le (· != 46) l
  omega
theorem keeps_tok {s : Shared} {k : Nat} : Keeps s { s with toks := k } := ⟨s.heap, k, rfl, fun _ _ e => e⟩
theorem join_strike {prog : Program} {w : World} {A : Around} {E : Value → Shared → Prop} {s : Shared} {D : Addr} {l : List Int} {ys : List Value} {t : Tok} {Q : Value → Shared → Prop} (hL : s.heap.IsList D ys.toArray) (hC : CarriedAll ys (((signs (tx l)).filter fun a => !a == (⟨#[46]⟩ : Str)).map fun a => PyData.str a)) (hc : Ch l) (hl : l.length ≤ 90)
    (h : ∀ t' k, Q (.str (tx (l.filter (· != 46))) t') { s with toks := k }) : wpAny (model prog w) A (call (.builtin "str.join") [.str (Str.ofString "") t, .ref D]) Q E s := by
  have hS := CarriedAll.strsOf (f := fun a => a) hC
  rw [List.map_id'] at hS
  exact join_listW hL hS (by decide) (strike_weight hc hl) fun t' k => by rw [strike_tx hc]; exact h t' k
theorem ne_same {prog : Program} {w : World} {A : Around} {E : Value → Shared → Prop} {s : Shared} {x : Str} {t u : Tok} {Q : Value → Shared → Prop} (h : Q (.bool false) s) : wpAny (model prog w) A (compareOp .NotEq (.str x t) (.str x u)) Q E s :=
  ne_str (by rw [show (x != x) = false by simp]; exact h)
end
local macro_rules | `(tactic| walk_at "compareOp NotEq str str") => `(tactic| (k_here; (with_reducible refine ne_same ?_)))
local macro_rules | `(tactic| walk_at "call builtin:str.join") => `(tactic| (k_here; k_dflt (refine' join_strike ?hL ?hC ?hc ?hl ?_; (case hL => assumption); (case hC => assumption); (case hc => assumption); (case hl => assumption); k_whole; intro _ _)))
local macro_rules | `(tactic| walk_at "call ref") => `(tactic| ((with_reducible refine atR 231 ?_); k_dflt (walk_at "MYUC"; (case' kC => refine' ct_grouped _ _ _ ?kh0 ?kh1 ?kh2); walk_at "MYCTC"; walk_at "MYH3"); walk_at "MYTLC"))
section
noncomputable def FnIs (g : Heap) (L : Addr) (m : Str → Option Value) (R : Tok → Value) (s : Shared) (v : Value) (s' : Shared) : Prop := ∃ u h' tk', v = R u ∧ Fr g L h' m ∧ s' = { s with heap := h', toks := tk' }
theorem cut_fn {M : Model} {A : Around} {t : Sem Value} {Q : Value → Shared → Prop} {E : Value → Shared → Prop} {s : Shared} {g : Heap} {L : Addr} {m : Str → Option Value} (R : Tok → Value) (F : Fr g L s.heap m) (h : wpAny M A t (FnIs g L m R s) E s) (k : ∀ u h' tk', Fr g L h' m → News g L h' [] → Q (R u) { s with heap := h', toks := tk' }) : wpAny M A t Q E s :=
  wpAny_mono h (fun v s' ⟨u, h', tk', e1, F', e2⟩ => by subst e1; subst e2; exact k u h' tk' F' News.nil) fun _ _ e => e
theorem FnIs.mk {g : Heap} {L : Addr} {m : Str → Option Value} {R : Tok → Value} {s : Shared} {v : Value} {h' : Heap} {tk : Nat} (u : Tok) (e : v = R u) (F : Fr g L h' m) : FnIs g L m R s v { s with heap := h', toks := tk } := ⟨u, h', tk, e, F, rfl⟩
theorem in_lists {prog : Program} {w : World} {A : Around} {E : Value → Shared → Prop} {s : Shared} {c q0 q1 q2 L : Addr} {h₀ : Heap} {news : Led} {ws : List Value} {fs : List Int} {n0 : Nat} {d : Int} {t : Tok} {Q : Value → Shared → Prop} (b : Bool)
    (N : News h₀ L s.heap ((c, { cls := .type "tuple", data := .seq #[.ref q1, .ref q2] }) :: (q2, PySem.W.listOf #[.int d t] 0) :: (q1, PySem.W.listOf #[] 0) :: (q0, PySem.W.listOf ws.toArray n0) :: news)) (hI : IntsAre ws (fs.take 1)) (hu : A.units + 8 < cLine)
    (hb : (fs.take 1 = [] ∨ fs.take 1 = [d]) ↔ b = true) (h : Q (.bool b) s) : wpAny (model prog w) A (compareOp .In (.ref q0) (.ref c)) Q E s := by
  have r1 : Reads s.heap (.ref q1) (.list []) [q1] := .list (N.get (.tail _ (.tail _ (.head _)))) rfl rfl .nil
  have r2 : Reads s.heap (.ref q2) (.list [.int d]) [q2] := .list (N.get (.tail _ (.head _))) rfl rfl (.cons (.int d t) .nil)
  have rc : Reads s.heap (.ref c) (.tuple [.list [], .list [.int d]]) _ := .tuple (N.get (.head _)) rfl rfl (.cons r1 (.cons r2 .nil))
  cases fs with
  | nil =>
    rw [List.take_nil] at hI hb
    cases hI
    have rx : Reads s.heap (.ref q0) (.list []) [q0] := .list (N.get (.tail _ (.tail _ (.tail _ (.head _))))) rfl rfl .nil
    refine SeqAt.in_tuple_reads rc rx rfl rfl (Nat.lt_of_le_of_lt ?_ hu) ?_
    · have : (PyData.list []).depth ≤ 7 := by decide
      omega
    · have : b = true := hb.mp (.inl rfl)
      subst this
      exact h
  | cons f fs =>
    rw [List.take_succ_cons, List.take_zero] at hI hb
    cases hI with
    | cons _ u r =>
      cases r
      have rx : Reads s.heap (.ref q0) (.list [.int f]) [q0] := .list (N.get (.tail _ (.tail _ (.tail _ (.head _))))) rfl rfl (.cons (.int f u) .nil)
      refine SeqAt.in_tuple_reads rc rx rfl rfl (Nat.lt_of_le_of_lt ?_ hu) ?_
      · have : (PyData.list [PyData.int f]).depth ≤ 7 := by simp [PyData.depth, PyData.depthAll]
        omega
      · have e : ([PyData.list [], PyData.list [.int d]].any fun y => PyData.eqv y (.list [.int f])) = b := by
          have e1 : ([PyData.list [], PyData.list [.int d]].any fun y => PyData.eqv y (.list [.int f])) = (d == f) := by
            simp [PyData.eqv, PyData.eqvAll]
          rw [e1]
          by_cases hq : f = d
          · rw [hb.mp (.inr (by rw [hq]))]; simp [hq]
          · have : b = false := by
              cases b
              · rfl
              · rcases hb.mpr rfl with z | z
                · cases z
                · exact absurd (by simpa using z) hq
            rw [this]
            simpa using fun z : d = f => hq z.symm
        rw [e]; exact h
theorem first_b {d a0 a1 b0 b1 : Int} {ks : List Int} (D : Dt d a0 a1 b0 b1) (h : KBa.In ks) : ((figures ks).take 1 = [] ∨ (figures ks).take 1 = [d]) ↔ ((wr ks a0 a1).takeWhile (· != 46)).isEmpty = true := by
  rw [← law_first D h, List.isEmpty_iff]
theorem ne_oS {prog : Program} {w : World} {A : Around} {E : Value → Shared → Prop} {s : Shared} {b : Bool} {l : List Int} {t u : Tok} {Q : Value → Shared → Prop} (h : Q (.bool false) s) : wpAny (model prog w) A (compareOp .NotEq (oS b l t) (oS b l u)) Q E s := by
  cases b
  · exact ne_same h
  · exact EqNone.ne_none_none h
theorem eq_oB {prog : Program} {w : World} {A : Around} {E : Value → Shared → Prop} {s : Shared} {o o' : Option (List Int)} {t u : Tok} {Q : Value → Shared → Prop} (e : o = o') (h : Q (.bool true) s) : wpAny (model prog w) A (compareOp .Eq (oB o t) (oB o' u)) Q E s := by
  subst e
  cases o
  · exact EqNone.eq_none_none h
  · exact eq_bytes (by simpa using h)
theorem ne_oB {prog : Program} {w : World} {A : Around} {E : Value → Shared → Prop} {s : Shared} {o o' : Option (List Int)} {t u : Tok} {Q : Value → Shared → Prop} (e : o = o') (h : Q (.bool false) s) : wpAny (model prog w) A (compareOp .NotEq (oB o t) (oB o' u)) Q E s := by
  subst e
  cases o
  · exact EqNone.ne_none_none h
  · exact ne_bytes (by simpa using h)
theorem GOk.ap {g g' : Array GenState} (h : GOk g g') (x : AllBare g) : AllBare g' := h x
noncomputable def finOf (d : Int) (ks : List Int) : Option (List Int) := if (over d ks + padN (figures ks).length) % 4 = 0 then some (octets (kp d ks)) else none
theorem hz_of {d : Int} {ks : List Int} (h : ¬ (Int.fmod (((figures ks).filter (· != d)).length : Int) 4 = 0 ∧ 0 < Int.fmod (-((figures ks).length : Int)) 4)) : ¬ (over d ks = 0 ∧ 0 < padN (figures ks).length) := by
  rw [ov_int, pad_int] at h; omega
theorem fin_yes {d : Int} {ks : List Int} {t : Tok} (h : Int.fmod (Int.fmod (((figures ks).filter (· != d)).length : Int) 4 + Int.fmod (-((figures ks).length : Int)) 4) 4 = 0) : Value.bytes (byteArr (octets ((figures ks).filter (· != d)))) t = oB (finOf d ks) t := by
  rw [ov_int, pad_int, Int.fmod_eq_emod_of_nonneg _ (by decide)] at h
  unfold finOf
  rw [if_pos (by omega)]; rfl
theorem fin_no {d : Int} {ks : List Int} {t : Tok} (h : ¬ Int.fmod (Int.fmod (((figures ks).filter (· != d)).length : Int) 4 + Int.fmod (-((figures ks).length : Int)) 4) 4 = 0) : Value.none = oB (finOf d ks) t := by
  rw [ov_int, pad_int, Int.fmod_eq_emod_of_nonneg _ (by decide)] at h
  unfold finOf
  rw [if_neg (by omega)]; rfl
end
local macro_rules | `(tactic| walk_at "call ref") => `(tactic| ((with_reducible refine atR 224 ?_); k_dflt (walk_at "MYUC"; (case' kC => refine' ct_read _ _ _ _ _ _ _ ?kh0 ?kh1 ?kh2 ?kh3); walk_at "MYCTC"; walk_at "MYH4"); walk_at "MYTLC"))
local macro_rules | `(tactic| walk_at "compareOp NotEq") => `(tactic| (k_here; (with_reducible show wpAny _ _ (compareOp CmpOp.NotEq (oS _ _ _) (oS _ _ _)) _ _ _); (with_reducible refine ne_oS ?_)))
local macro_rules | `(tactic| walk_at "compareOp NotEq") => `(tactic| (k_here; (with_reducible show wpAny _ _ (compareOp CmpOp.NotEq (oB _ _) (oB _ _)) _ _ _); (with_reducible refine ne_oB ?e ?_); (case e => assumption)))
local macro_rules | `(tactic| walk_at "compareOp Eq") => `(tactic| (k_here; (with_reducible show wpAny _ _ (compareOp CmpOp.Eq (oB _ _) (oB _ _)) _ _ _); (with_reducible refine eq_oB ?e ?_); (case e => assumption)))
section
noncomputable def map2 (n1 n2 : Str) (v1 v2 : Tok → Value) (m : Str → Option Value) (u1 u2 : Tok) : Str → Option Value := fun y => if y = n2 then some (v2 u2) else if y = n1 then some (v1 u1) else m y
noncomputable def StIs (g : Heap) (L : Addr) (m' : Tok → Tok → Str → Option Value) (news : Led) (s : Shared) (fl : Flow) (s' : Shared) : Prop := fl = .next ∧ ∃ u1 u2 h' tk', Fr g L h' (m' u1 u2) ∧ News g L h' news ∧ s' = { s with heap := h', toks := tk' }
theorem cut_st {prog : Program} {w : World} {A : Around} {env : Env} {st : Stmt} {rest : List Stmt} {Q : Flow → Shared → Prop} {E : Value → Shared → Prop} {s : Shared} {g : Heap} {L : Addr} {m : Str → Option Value} {news : Led} (n1 n2 : Str) (v1 v2 : Tok → Value) (F : Fr g L s.heap m) (N : News g L s.heap news)
    (h : wpAny (model prog w) A (exec st env) (StIs g L (map2 n1 n2 v1 v2 m) news s) E s) (k : ∀ u1 u2 h' tk', Fr g L h' (fun y => if y = n2 then some (v2 u2) else if y = n1 then some (v1 u1) else m y) → News g L h' news → wpAny (model prog w) A (execs rest env) Q E { s with heap := h', toks := tk' }) : wpAny (model prog w) A (execs (st :: rest) env) Q E s :=
  wpAny_execs_cons (wpAny_mono h (fun fl s' x => by
    obtain ⟨e, u1, u2, h', tk', F', N', es⟩ := x
    subst e; subst es
    exact k u1 u2 h' tk' F' N') fun _ _ e => e)
theorem StIs.mk {g : Heap} {L : Addr} {n1 n2 : Str} {v1 v2 : Tok → Value} {m : Str → Option Value} {news news' : Led} {s : Shared} {h' : Heap} {tk' : Nat} (u1 u2 : Tok) (F : Fr g L h' (fun y => if y = n2 then some (v2 u2) else if y = n1 then some (v1 u1) else m y)) (N : News g L h' news') (hs : ∀ q ∈ news, q ∈ news') : StIs g L (map2 n1 n2 v1 v2 m) news s .next { s with heap := h', toks := tk' } :=
  ⟨rfl, u1, u2, h', tk', F, fun q hq => N q (hs q hq), rfl⟩
theorem due_no1 {d : Int} {ks : List Int} {t : Tok} (h : ¬ Int.fmod (((figures ks).filter (· != d)).length : Int) 4 = 0) (h2 : ¬ 1 < Int.fmod (((figures ks).filter (· != d)).length : Int) 4) : Value.none = oB (dueOf d ks) t :=
  due_no fun z => z.elim h fun y => h2 y.1
theorem due_no2 {d : Int} {ks : List Int} {t : Tok} (h : ¬ Int.fmod (((figures ks).filter (· != d)).length : Int) 4 = 0) (h2 : ¬ 3 < Int.fmod (((figures ks).filter (· != d)).length : Int) 4 + Int.fmod (-((figures ks).length : Int)) 4) : Value.none = oB (dueOf d ks) t :=
  due_no fun z => z.elim h fun y => h2 y.2
theorem ct_holdsD (W : Wd) (ks : List Int) (tb td : Tok) (hr : KBa.In ks) (hl : ks.length ≤ 9) (d : Int) (x0 x1 y0 y1 : UInt8) (hd : (d = 62 ∧ x0 = 46 ∧ x1 = 126 ∧ y0 = 33 ∧ y1 = 126) ∨ (d = 63 ∧ x0 = 126 ∧ x1 = 46 ∧ y0 = 126 ∧ y1 = 33)) : CtC W 14 236 [.bytes (byteArr ks) tb, .int d td] [] (fun _ => .bool true) := by
  intro dp un gd cn cs a ccd cl outer A₀ base h₀ L m s Q E B F X T hk XB TB D hdp hun hret
  walk_at "MYFILL"
  refine wpAny_call ?_
  k_dflt (refine' code_defCT (binds := [(Str.ofString "row", .bytes (byteArr ks) tb), (Str.ofString "dot", .int d td)]) ?k1 ?k2 ?k3 ?k5 ?kA ?kF ?kK ?k6 ?k7 ?k8 ?k9 ?kB ?kD ?_ ?c2 ?c3 ?c4; (case kA => exact rfl); (case kF => exact rfl); (case kK => assumption); (case k1 => k_asm); (case k2 => k_asm); (case k3 => k_asm); (case k5 => k_asm); (case k6 => k_is); (case k7 => k_is); (case k8 => walk_at "MYROOM"); (case k9 => first | exact BindsTo.of_eq rfl | exact binds_K (X.keeps F.keep) rfl (by k_is) rfl rfl rfl | (refine' kp_binds ?kx ?ke; (case kx => exact X.keeps F.keep); (case ke => exact fun _ => rfl))); (case kB => exact rfl); (case kD => decide +kernel); (case c2 => exact rfl); (case c3 => exact rfl); (case c4 => exact rfl); k_whole; intro L1 h1 tk1 cells1 F1 N1 Y1 B1 X1 T1; k_cells Y1; (try simp only [List.cons_append, List.nil_append] at N1); (try dsimp only); (try k_fold))
  have D1 := dicts_push (env := envX cn cs L a ccd cl) D F rfl
  refine cut_st (Str.ofString "altchars") (Str.ofString "another") (fun u => .bytes #[x0, x1] u) (fun u => .bytes #[y0, y1] u) F1 N1 ?_ ?_
  · rcases hd with ⟨rfl, rfl, rfl, rfl, rfl⟩ | ⟨rfl, rfl, rfl, rfl, rfl⟩
    all_goals
      k_steps
      rename Fr _ _ _ _ => fE9
      rename News _ _ _ _ => nE9
      exact StIs.mk _ _ fE9 nE9 (fun q hq => by (repeat (first | exact hq | refine List.Mem.tail _ ?_)))
  intro u19 u29 hh9 tkk9 FF9 NN9
  clear F1 N1
  (try dsimp only at FF9)
  (try dsimp only)
  have D9 : Dt d ((x0.toNat : Nat) : Int) ((x1.toNat : Nat) : Int) ((y0.toNat : Nat) : Int) ((y1.toNat : Nat) : Int) := by
    rcases hd with ⟨rfl, rfl, rfl, rfl, rfl⟩ | ⟨rfl, rfl, rfl, rfl, rfl⟩
    · exact ⟨.inl ⟨rfl, rfl, rfl, rfl, rfl⟩⟩
    · exact ⟨.inr ⟨rfl, rfl, rfl, rfl, rfl⟩⟩
  have hx9 : x0.toNat < 128 ∧ x1.toNat < 128 ∧ y0.toNat < 128 ∧ y1.toNat < 128 := by
    rcases hd with ⟨rfl, rfl, rfl, rfl, rfl⟩ | ⟨rfl, rfl, rfl, rfl, rfl⟩ <;> decide
  obtain ⟨hx0, hx1, hy0, hy1⟩ := hx9
  clear hd
  k_steps
  refine Hold.mk ?_
  rename IntsAre _ (figures ks) => hI9
  refine LCt.CompSrcT.ledger (by rfl) (by k_asm) (by k_asm) (by k_mem) (figs_size hl hI9) ?_
  intro g'
  refine kci_list (fun l k => if k != d then l ++ [k] else l) hI9 ?_ ?_ ?_
  · intro k' t' I' oI' C' oC' D' m' ys' l' h' tk' E' hk' hII' hC' hx' F' N' off' ne' mk'
    have hMark : KPfMark := mk'
    (try (simp only [LCg.Off3, and_true] at off'))
    k_steps
    refine kci_el ?_ rfl rfl
    rw [if_pos (by rw [bne_iff_ne]; assumption)]
  · intro ys hys hlen
    rw [foldl_keep] at hys
    clear hlen
    have hF12 := figs12 hl
    have hK12 := kept12 (d := d) hl
    have hKin := @kept_in ks d
    k_steps
    have hTc := wr_ch (ks := ks) D9
    have hTl := wr_90 hl (a0 := ((x0.toNat : Nat) : Int)) (a1 := ((x1.toNat : Nat) : Int))
    have hTb := wr_blank D9 hr
    refine cut_tok (oB (dueOf d ks)) ?_ ?_
    · refine IfExp_ ?_
      k_steps
      all_goals first
        | exact TokIs.mk _ (due_yes (.inl (by assumption)))
        | exact TokIs.mk _ (due_yes (.inr ⟨by assumption, by assumption⟩))
        | exact TokIs.mk 0 (due_no1 (by assumption) (by assumption))
        | exact TokIs.mk 0 (due_no2 (by assumption) (by assumption))
        | exact TokIs.mk _ (due_yes (by omega))
        | exact TokIs.mk 0 (due_no (by omega))
    · intro t9 tk9
      (try dsimp only)
      k_steps
      refine Hold.mk ?_
      with_reducible apply ListComp_rowsP
      case hfree => decide
      case hcell => decide
      case hkind => with_unfolding_all rfl
      case hnames => decide
      case hx => with_unfolding_all rfl
      case hs => intro _; with_unfolding_all rfl
      k_steps
      rename Fr _ _ _ _ => fE9
      rename News _ _ _ _ => nE9
      refine srcC_signsD (pz := fun a => !a == (⟨#[46]⟩ : Str)) (d := fun a => .str a) rfl fE9 nE9 ?_ ?_ ?_ ?_
      · intro C a v s₂ m₂ E' hi hn hx htk
        obtain ⟨u, hv9⟩ := ItemKind.str_is hi
        subst hv9
        k_steps
        exact keeps_tok
      · intro C a v s₂ m₂ E' hi hp hn hx htk
        obtain ⟨u, hv9⟩ := ItemKind.str_is hi
        subst hv9
        k_steps
        · exact .str _ _
        · exact keeps_tok
      · intro D ys h' tk F' N' hD hL hP hC
        clear fE9 nE9
        dsimp only
        k_steps
        k_steps
        rename Fr _ _ _ _ => fE9
        rename News _ _ _ _ => nE9
        refine cut_fn (oS ((wr ks ((x0.toNat : Nat) : Int) ((x1.toNat : Nat) : Int)).takeWhile (· != 46)).isEmpty (wr ks ((x0.toNat : Nat) : Int) ((x1.toNat : Nat) : Int))) fE9 ?_ ?_
        · refine IfExp_ ?_
          k_steps
          refine in_lists ((wr ks ((x0.toNat : Nat) : Int) ((x1.toNat : Nat) : Int)).takeWhile (· != 46)).isEmpty (by assumption) (by assumption) (by walk_at "MYUNITS") (first_b D9 hr) ?_
          k_steps
          all_goals first
            | (have e9 : ((wr ks ((x0.toNat : Nat) : Int) ((x1.toNat : Nat) : Int)).takeWhile (· != 46)).isEmpty = true := by assumption
               rw [e9]
               exact FnIs.mk 0 rfl (by k_asm))
            | (have e9 : ((wr ks ((x0.toNat : Nat) : Int) ((x1.toNat : Nat) : Int)).takeWhile (· != 46)).isEmpty = false := by assumption
               rw [e9]
               exact FnIs.mk _ rfl (by k_asm))
        · intro t9 h9 tk9 F9 N9
          clear fE9 nE9
          (try dsimp only)
          have hSc : Ch ((wr ks ((x0.toNat : Nat) : Int) ((x1.toNat : Nat) : Int)).filter (· != 46)) := fun c hc => hTc c (List.mem_filter.mp hc).1
          have hSl : ((wr ks ((x0.toNat : Nat) : Int) ((x1.toNat : Nat) : Int)).filter (· != 46)).length ≤ 100 := by have := List.length_filter_le (· != 46) (wr ks ((x0.toNat : Nat) : Int) ((x1.toNat : Nat) : Int)); omega
          have hTl1 : (wr ks ((x0.toNat : Nat) : Int) ((x1.toNat : Nat) : Int)).length ≤ 100 := by omega
          have R1 : a2b false (((wr ks ((x0.toNat : Nat) : Int) ((x1.toNat : Nat) : Int)).filter (· != 46)).map (trC ((x0.toNat : Nat) : Int) ((x1.toNat : Nat) : Int) 43 47)) = dueOf d ks := law_read1 D9 hr
          have R2 : a2b false ((wr ks ((x0.toNat : Nat) : Int) ((x1.toNat : Nat) : Int)).map (trC ((y0.toNat : Nat) : Int) ((y1.toNat : Nat) : Int) 43 47)) = dueOf d ks := law_read2 D9 hr
          k_steps
          all_goals first
            | (rename KtsTurn _ _ _ => hT9
               rename Fr _ L1 _ _ => hF9
               exact hret 0 _ _ _ ⟨_, hT9, hF9.keep⟩ (by intro hb9; (repeat (first | exact hb9 | (refine GOk.ap (by assumption) ?_)))))
            | (refine Hold.mk ?_
               refine cut_tok (oB (finOf d ks)) ?_ ?_
               · refine IfExp_ ?_
                 k_steps
                 all_goals first
                   | exact TokIs.mk _ (fin_yes (by assumption))
                   | exact TokIs.mk 0 (fin_no (by assumption))
                   | exact TokIs.mk _ (fin_yes (by omega))
                   | exact TokIs.mk 0 (fin_no (by omega))
               · intro t9 tk9
                 (try dsimp only)
                 have R3 : a2b true (((wr ks ((x0.toNat : Nat) : Int) ((x1.toNat : Nat) : Int)).filter (· != 46)).map (trC ((x0.toNat : Nat) : Int) ((x1.toNat : Nat) : Int) 43 47)) = finOf d ks := law_read3 D9 hr (hz_of (by first | (have e9 : ¬ (Int.fmod (((figures ks).filter (· != d)).length : Int) 4 = 0) := (by assumption); exact fun z => e9 z.1) | (have e9 : ¬ (0 < Int.fmod (-((figures ks).length : Int)) 4) := (by assumption); exact fun z => e9 z.2) | omega))
                 k_steps
                 rename KtsTurn _ _ _ => hT9
                 rename Fr _ L1 _ _ => hF9
                 exact hret 0 _ _ _ ⟨_, hT9, hF9.keep⟩ (by intro hb9; (repeat (first | exact hb9 | (refine GOk.ap (by assumption) ?_)))))
      · have h1 : (tx (wr ks ((x0.toNat : Nat) : Int) ((x1.toNat : Nat) : Int))).length = (wr ks ((x0.toNat : Nat) : Int) ((x1.toNat : Nat) : Int)).length := tx_size _
        rw [h1, sizeLine_eq]; omega
  · exact keep_grows _
theorem ct_holds62 (W : Wd) (ks : List Int) (tb td : Tok) (hr : KBa.In ks) (hl : ks.length ≤ 9) : CtC W 14 236 [.bytes (byteArr ks) tb, .int 62 td] [] (fun _ => .bool true) := ct_holdsD W ks tb td hr hl 62 46 126 33 126 (.inl ⟨rfl, rfl, rfl, rfl, rfl⟩)
theorem ct_holds63 (W : Wd) (ks : List Int) (tb td : Tok) (hr : KBa.In ks) (hl : ks.length ≤ 9) : CtC W 14 236 [.bytes (byteArr ks) tb, .int 63 td] [] (fun _ => .bool true) := ct_holdsD W ks tb td hr hl 63 126 46 126 33 (.inr ⟨rfl, rfl, rfl, rfl, rfl⟩)
end
local macro_rules | `(tactic| walk_at "exec Assign cons ListComp") => `(tactic| (k_here; k_dflt (refine LCg.Assign_ListComp_U (F₀ := by k_asm) (by rfl) (by with_unfolding_all rfl) (by rfl) (by decide) (by rfl) (by decide) (by rfl) (by rfl) (by rfl) ?_)))
local macro_rules | `(tactic| walk_at "CompSrc") => `(tactic| (k_here; (refine Hold.out ?_)))
section
theorem take4 {ns : List Int} {vs : List Value} (h : IntsAre vs (ns.take 4)) : vs.toArray.size ≤ sizeLine := by
  rw [List.size_toArray, h.length, sizeLine_eq]
  have := List.length_take_le 4 ns
  omega
noncomputable def drawG (n : Int) : Int := if Int.fmod n 4 < 2 then 62 + Int.fmod n 4 else Int.fmod (Int.fdiv n 4) 64
theorem drawG_in (n : Int) : 0 ≤ drawG n ∧ drawG n < 64 := by
  unfold drawG
  have h1 : 0 ≤ Int.fmod n 4 := by rw [Int.fmod_eq_emod_of_nonneg _ (by decide)]; exact Int.emod_nonneg _ (by decide)
  split
  · omega
  · rw [Int.fmod_eq_emod_of_nonneg _ (by decide)]; exact ⟨Int.emod_nonneg _ (by decide), Int.emod_lt_of_pos _ (by decide)⟩
theorem drawG_lt {n : Int} (h : Int.fmod n 4 < 2) : drawG n = 62 + Int.fmod n 4 := by unfold drawG; rw [if_pos h]
theorem drawG_ge {n : Int} (h : ¬ Int.fmod n 4 < 2) : drawG n = Int.fmod (Int.fdiv n 4) 64 := by unfold drawG; rw [if_neg h]
theorem map4 {ns : List Int} {vs : List Value} {g : Int → Int} (h : IntsAre vs ((ns.take 4).map g)) : vs.toArray.size ≤ sizeLine := by
  rw [List.size_toArray, h.length, sizeLine_eq, List.length_map]
  have := List.length_take_le 4 ns
  omega
theorem row_len {ns : List Int} {ys : List Value} {g : Int → Int} (_h : IntsAre ys (((ns.take 4).map g).map drawG)) : (((ns.take 4).map g).map drawG ++ [62, 5, 63, 62, 40, 62, 9, 63]).length ≤ 12 := by
  have := List.length_take_le 4 ns
  simp only [List.length_append, List.length_map, List.length_cons, List.length_nil]
  omega
theorem row_in {ns : List Int} {ys : List Value} {g : Int → Int} (_h : IntsAre ys (((ns.take 4).map g).map drawG)) : ∀ c ∈ ((ns.take 4).map g).map drawG ++ [62, 5, 63, 62, 40, 62, 9, 63], 0 ≤ c ∧ c < 64 := by
  intro c hc
  rcases List.mem_append.mp hc with hc | hc
  · obtain ⟨n, _, rfl⟩ := List.mem_map.mp hc
    exact drawG_in n
  · simp only [List.mem_cons, List.not_mem_nil, or_false] at hc
    omega
theorem row9 {ns : List Int} (h : ns.length ≤ 12) : (octets ns).length ≤ 9 := by rw [octets_len]; omega
theorem rowIn {ns : List Int} (_h : ns.length ≤ 12) : KBa.In (octets ns) := octets_in ns
theorem len_by {prog : Program} {w : World} {A : Around} {E : Value → Shared → Prop} {s : Shared} {l : List Int} {t : Tok} {Q : Value → Shared → Prop} (hi : KBa.In l) (hl : l.length ≤ 9) (h : ∀ t' k, Q (.int (l.length : Int) t') { s with toks := k }) :
    wpAny (model prog w) A (call (.builtin "len") [.bytes (byteArr l) t]) Q E s := KBw.len_K (KBa.ints_make hi) (by omega) (h _ _)
end
local macro_rules | `(tactic| walk_at "call builtin:len") => `(tactic| (k_here; (with_reducible show wpAny _ _ (call (Value.builtin "len") [Value.bytes (byteArr _) _]) _ _ _); k_dflt (refine' len_by ?hi ?hl ?_; (case hi => assumption); (case hl => assumption); k_whole; intro _ _)))
local macro_rules | `(tactic| walk_at "MYROOM") => `(tactic| decide)
local macro_rules | `(tactic| walk_at "MYUNITS") => `(tactic| decide)
local macro_rules | `(tactic| walk_at "exec For Name Call cons nil") => `(tactic| (k_here; k_dflt (refine' wpAny_For ?kh (by intro _; rfl); k_whole)))
local macro_rules | `(tactic| walk_at "exec For Name Tuple cons nil") => `(tactic| (k_here; k_dflt (refine' wpAny_For ?kh (by intro _; rfl); k_whole)))
section
noncomputable def GEnd (h₀ : Heap) (L : Addr) (m₀ : Str → Option Value) (stored : List Str) (led : Led) (gs : Array GenState) (s : Shared) (R : Result → Shared → Prop) (f : Flow) (s₃ : Shared) : Prop := match f with
  | .ret v => R (.ok (.ret v)) s₃
  | .brk => R (.ok .next) s₃
  | _ => ∃ h tk gs' m', s₃ = { s with heap := h, toks := tk, gens := gs' } ∧ GOk gs gs' ∧ Fr h₀ L h m' ∧ News h₀ L h led ∧ ∀ z, stored.contains z = false → m' z = m₀ z
section
variable {prog : Program} {w : World} {A : Around} {s : Shared} {env : Env} {h₀ : Heap} {R : Result → Shared → Prop} {x : Str} {px : Pos} {body : List Stmt} {m₀ : Str → Option Value} {news : Led}
theorem loop_g {I : Addr} {fp wr : List Addr} {n : Nat} {P : Nat → Value → Prop} {St : Nat → Heap → Prop} (stored : List Str) (Wk : Walks prog w A I fp wr n P St) (hx : env.kindOf x = some .local)
    (hp : (env.scope.kind == .class || (env.scope.kind == .module && env.locals != env.globals)) = false) (hxs : stored.contains x = true)
    (hLf : env.locals ∉ fp) (hwr : ∀ b ∈ wr, h₀.get? b = none) (hnw : ∀ p ∈ news, p.1 ∉ wr) (hst : St 0 s.heap) (F : Fr h₀ env.locals s.heap m₀) (N : News h₀ env.locals s.heap news)
    (step : ∀ (i : Nat) (v : Value) (h : Heap) (tk : Nat) (gs : Array GenState) (m' : Str → Option Value) (own : Led), i < n → P i v → GOk s.gens gs → (∀ z, stored.contains z = false → m' z = m₀ z) → Fr h₀ env.locals h (fun y => if y = x then some v else m' y) → News h₀ env.locals h (own ++ news) →
      wpAny (model prog w) A (execs body env) (GEnd h₀ env.locals m₀ stored (own ++ news) gs s R) (notedBy (model prog w) A env fun e s' => R (.error e) s') { s with heap := h, toks := tk, gens := gs })
    (done : ∀ (h : Heap) (tk : Nat) (gs : Array GenState) (m' : Str → Option Value), GOk s.gens gs → (∀ z, stored.contains z = false → m' z = m₀ z) → Fr h₀ env.locals h m' → News h₀ env.locals h news → R (.ok .next) { s with heap := h, toks := tk, gens := gs }) :
    codeAny (model prog w) A (.forLoop (.Name x px) (.ref I) body [] env) R s := by
  have hLw : env.locals ∉ wr := fun h => hLf (Wk.sub _ h)
  have old : ∀ b o, h₀.get? b = some o → b ∉ wr := fun b o e hb => by rw [hwr b hb] at e; cases e
  refine codeAny_forLoop
    (fun k s' => ∃ h tk gs m' i, s' = { s with heap := h, toks := tk, gens := gs } ∧ GOk s.gens gs ∧ St i h ∧ Fr h₀ env.locals h m' ∧ News h₀ env.locals h news ∧ (∀ z, stored.contains z = false → m' z = m₀ z) ∧ i ≤ n ∧ k = n + 1 - i) ?_ (n + 1)
    ⟨s.heap, s.toks, s.gens, m₀, 0, rfl, id, hst, F, N, fun _ _ => rfl, Nat.zero_le _, rfl⟩
  rintro k s' ⟨h, tk, gs, m', i, rfl, hG, hst', F', N', hm, hi, rfl⟩
  have next : ∀ h₁ : Heap, (∀ b o, b ∉ wr → h.get? b = some o → h₁.get? b = some o) → Fr h₀ env.locals h₁ m' ∧ News h₀ env.locals h₁ news := fun h₁ hk₁ =>
    ⟨⟨F'.ns.at' fun o e => hk₁ _ o hLw e, fun b o e => hk₁ b o (old b o e) (F'.keep b o e), F'.above⟩, fun p hp => ⟨hk₁ _ _ (hnw p hp) (N' p hp).1, (N' p hp).2⟩⟩
  by_cases hlt : i < n
  · refine Wk.item i _ _ _ hlt hst' fun v h₁ tk₁ hP hst₁ hk₁ => ?_
    obtain ⟨F₁, N₁⟩ := next h₁ hk₁
    refine wpAny_assign_Name (wpAny_storeName_local hx F₁.ns (fun h₂ hn₂ hs₂ => ?_) hp)
    have F₂ := F₁.set hn₂ hs₂
    have Nown : News h₀ env.locals h₂ (ownOf h₀ fp h₂) := news_ownOf hLf
    have fin : ∀ f s₃, GEnd h₀ env.locals m₀ stored (ownOf h₀ fp h₂ ++ news) gs s R f s₃ → f = .next ∨ f = .cont → ∃ m, m < n + 1 - i ∧ ∃ h tk gs m' i, s₃ = { s with heap := h, toks := tk, gens := gs } ∧ GOk s.gens gs ∧ St i h ∧ Fr h₀ env.locals h m' ∧ News h₀ env.locals h news ∧ (∀ z, stored.contains z = false → m' z = m₀ z) ∧ i ≤ n ∧ m = n + 1 - i := by
      intro f s₃ hg hf
      have hg' : ∃ h tk gs' m', s₃ = { s with heap := h, toks := tk, gens := gs' } ∧ GOk gs gs' ∧ Fr h₀ env.locals h m' ∧ News h₀ env.locals h (ownOf h₀ fp h₂ ++ news) ∧ ∀ z, stored.contains z = false → m' z = m₀ z := by
        rcases hf with rfl | rfl <;> exact hg
      obtain ⟨h₃, tk₃, gs₃, m₃, rfl, hG₃, F₃, N₃, hm₃⟩ := hg'
      refine ⟨n + 1 - (i + 1), by omega, h₃, tk₃, gs₃, m₃, i + 1, rfl, fun z => hG₃ (hG z), ?_, F₃, N₃.right, hm₃, hlt, rfl⟩
      refine Wk.frame _ _ _ hst₁ fun b hb o e => ?_
      have e₂ : h₂.get? b = some o := (hs₂.2 b fun q => hLf (q ▸ hb)).trans e
      cases hn : h₀.get? b with
      | some o₀ =>
        have : o₀ = o := by have := F₂.keep b o₀ hn; rw [e₂] at this; exact (Option.some.inj this).symm
        exact this ▸ F₃.keep b o₀ hn
      | none => exact (N₃ _ (List.mem_append_left _ (mem_ownOf hb hn e₂))).1
    refine wpAny_mono (step i v h₂ _ gs m' (ownOf h₀ fp h₂) hlt hP hG hm F₂ (Nown.append (N₁.set hs₂))) (fun f s₃ h₃ => ?_) fun _ _ e => e
    cases f with
    | ret v => exact h₃
    | brk => exact h₃
    | cont => exact fin _ _ h₃ (.inr rfl)
    | next => exact fin _ _ h₃ (.inl rfl)
  · have hin : i = n := by omega
    subst hin
    refine Wk.done _ _ _ hst' fun h₁ tk₁ hk₁ => wpAny_execs_nil ?_
    obtain ⟨F₁, N₁⟩ := next h₁ hk₁
    exact done h₁ tk₁ gs m' hG hm F₁ N₁
theorem loop_range {E : Value → Shared → Prop} {r : Addr} {n : Nat} {t u v : Tok} (stored : List Str) (hh : A.handled = none) (hr : IsRange s.heap r 0 (n : Int) 1 t u v) (hn : n ≤ 100) (hx : env.kindOf x = some .local)
    (hp : (env.scope.kind == .class || (env.scope.kind == .module && env.locals != env.globals)) = false) (hxs : stored.contains x = true) (F : Fr h₀ env.locals s.heap m₀) (N : News h₀ env.locals s.heap news)
    (step : ∀ (i : Nat) (t : Tok) (h : Heap) (tk : Nat) (gs : Array GenState) (m' : Str → Option Value) (own : Led), i < n → GOk s.gens gs → (∀ z, stored.contains z = false → m' z = m₀ z) → Fr h₀ env.locals h (fun y => if y = x then some (.int (i : Int) t) else m' y) → News h₀ env.locals h (own ++ news) →
      wpAny (model prog w) A (execs body env) (GEnd h₀ env.locals m₀ stored (own ++ news) gs s R) (notedBy (model prog w) A env fun e s' => R (.error e) s') { s with heap := h, toks := tk, gens := gs })
    (done : ∀ (h : Heap) (tk : Nat) (gs : Array GenState) (m' : Str → Option Value), GOk s.gens gs → (∀ z, stored.contains z = false → m' z = m₀ z) → Fr h₀ env.locals h m' → News h₀ env.locals h news → R (.ok .next) { s with heap := h, toks := tk, gens := gs }) :
    wpAny (model prog w) A (pyIter (.ref r)) (fun it s₂ => codeAny (model prog w) A (.forLoop (.Name x px) it body [] env) R s₂) E s := by
  have hsm : Builtin.Range.small 0 (n : Int) 1 = true := small_one (by omega) (by omega) (by omega) (by omega)
  have hsz : Builtin.Range.rangeSize 0 (n : Int) 1 = (n : Int) := by rw [rangeSize_nat]; omega
  refine wpAny_pyIter_range hr hsm ?_
  refine loop_g (s := { s with heap := s.heap.push _ }) (h₀ := h₀) (m₀ := m₀) (news := news) stored (Walks.range hh s.heap.objs.size 0 1 n) hx hp hxs ?_ ?_ ?_ ?_ (F.push _) (fun p hp => ⟨Heap.get?_push_of_some _ (N p hp).1, (N p hp).2⟩) ?_ done
  · intro hm
    exact absurd F.ns.lt ((List.mem_singleton.mp hm) ▸ Nat.lt_irrefl _)
  · intro b hb
    rw [List.mem_singleton.mp hb]
    exact next_is_new F
  · intro p hp hI
    exact absurd (Heap.lt_size (N p hp).1) ((List.mem_singleton.mp hI) ▸ Nat.lt_irrefl _)
  · show IsRangeIter _ _ _ _ _
    rw [hsz]; simpa using Heap.get?_push_size _ rfl
  · rintro i v h tk gs m' own hi ⟨t, rfl⟩ hG hm FB NB
    rw [show (0 : Int) + (i : Int) * 1 = (i : Int) by omega] at FB
    exact step i t h tk gs m' own hi hG hm FB NB
theorem loop_tuple {E : Value → Shared → Prop} {r : Addr} {vs : List Value} {k : Nat} (stored : List Str) (hh : A.handled = none) (hx : env.kindOf x = some .local)
    (hp : (env.scope.kind == .class || (env.scope.kind == .module && env.locals != env.globals)) = false) (hxs : stored.contains x = true) (F : Fr h₀ env.locals s.heap m₀) (N : News h₀ env.locals s.heap news) (hm0 : (r, ({ cls := .type "tuple", data := .seq vs.toArray k } : Obj)) ∈ news)
    (step : ∀ (i : Nat) (v : Value) (h : Heap) (tk : Nat) (gs : Array GenState) (m' : Str → Option Value) (own : Led), vs[i]? = some v → GOk s.gens gs → (∀ z, stored.contains z = false → m' z = m₀ z) → Fr h₀ env.locals h (fun y => if y = x then some v else m' y) → News h₀ env.locals h (own ++ news) →
      wpAny (model prog w) A (execs body env) (GEnd h₀ env.locals m₀ stored (own ++ news) gs s R) (notedBy (model prog w) A env fun e s' => R (.error e) s') { s with heap := h, toks := tk, gens := gs })
    (done : ∀ (h : Heap) (tk : Nat) (gs : Array GenState) (m' : Str → Option Value), GOk s.gens gs → (∀ z, stored.contains z = false → m' z = m₀ z) → Fr h₀ env.locals h m' → News h₀ env.locals h news → R (.ok .next) { s with heap := h, toks := tk, gens := gs }) :
    wpAny (model prog w) A (pyIter (.ref r)) (fun it s₂ => codeAny (model prog w) A (.forLoop (.Name x px) it body [] env) R s₂) E s := by
  have ht : s.heap.IsTuple r vs.toArray := ⟨_, N.get hm0, rfl, _, rfl⟩
  have hrI : r ≠ s.heap.objs.size := Nat.ne_of_lt (Heap.lt_size (N.get hm0))
  refine wpAny_pyIter_tuple ht ?_
  refine loop_g (s := { s with heap := s.heap.push _ }) (h₀ := h₀) (m₀ := m₀) (news := news) stored (Walks.tuple hh s.heap.objs.size r hrI vs.toArray) hx hp hxs ?_ ?_ ?_ ?_ (F.push _) (fun p hp => ⟨Heap.get?_push_of_some _ (N p hp).1, (N p hp).2⟩) ?_ done
  · intro hm
    rcases List.mem_cons.mp hm with q | q
    · exact absurd F.ns.lt (q ▸ Nat.lt_irrefl _)
    · exact (N _ hm0).2.1 (List.mem_singleton.mp q).symm
  · intro b hb
    rw [List.mem_singleton.mp hb]
    exact next_is_new F
  · intro p hp hI
    exact absurd (Heap.lt_size (N p hp).1) ((List.mem_singleton.mp hI) ▸ Nat.lt_irrefl _)
  · exact ⟨⟨_, Heap.get?_push_size _ rfl, rfl, rfl⟩, ht.push _⟩
  · rintro i v h tk gs m' own hi hv hG hm FB NB
    exact step i v h tk gs m' own (by simpa using hv) hG hm FB NB
end
theorem loop_range1 {prog : Program} {w : World} {A : Around} {s : Shared} {env : Env} {h₀ : Heap} {R : Result → Shared → Prop} {x : Str} {px : Pos} {body : List Stmt} {m₀ : Str → Option Value} {news : Led} {E : Value → Shared → Prop} {r : Addr} {k : Nat} {t u v : Tok} (stored : List Str) (hh : A.handled = none) (hr : IsRange s.heap r 0 ((k : Int) + 1) 1 t u v) (hn : k ≤ 90) (hx : env.kindOf x = some .local)
    (hp : (env.scope.kind == .class || (env.scope.kind == .module && env.locals != env.globals)) = false) (hxs : stored.contains x = true) (F : Fr h₀ env.locals s.heap m₀) (N : News h₀ env.locals s.heap news)
    (step : ∀ (i : Nat) (t : Tok) (h : Heap) (tk : Nat) (gs : Array GenState) (m' : Str → Option Value) (own : Led), i ≤ k → GOk s.gens gs → (∀ z, stored.contains z = false → m' z = m₀ z) → Fr h₀ env.locals h (fun y => if y = x then some (.int (i : Int) t) else m' y) → News h₀ env.locals h (own ++ news) →
      wpAny (model prog w) A (execs body env) (GEnd h₀ env.locals m₀ stored (own ++ news) gs s R) (notedBy (model prog w) A env fun e s' => R (.error e) s') { s with heap := h, toks := tk, gens := gs })
    (done : ∀ (h : Heap) (tk : Nat) (gs : Array GenState) (m' : Str → Option Value), GOk s.gens gs → (∀ z, stored.contains z = false → m' z = m₀ z) → Fr h₀ env.locals h m' → News h₀ env.locals h news → R (.ok .next) { s with heap := h, toks := tk, gens := gs }) :
    wpAny (model prog w) A (pyIter (.ref r)) (fun it s₂ => codeAny (model prog w) A (.forLoop (.Name x px) it body [] env) R s₂) E s :=
  loop_range (n := k + 1) stored hh hr (by omega) hx hp hxs F N (fun i t h tk gs m' own hi => step i t h tk gs m' own (by omega)) done
theorem two_names {m' m₀ : Str → Option Value} {x y : Str} (hm : ∀ z, [x, y].contains z = false → m' z = m₀ z) : m' = fun z => if z = x then m' x else if z = y then m' y else m₀ z := by
  funext z
  by_cases h1 : z = x
  · rw [if_pos h1, h1]
  · rw [if_neg h1]
    by_cases h2 : z = y
    · rw [if_pos h2, h2]
    · rw [if_neg h2]
      exact hm z (by simp [h1, h2])
theorem one_name {m' m₀ : Str → Option Value} {x : Str} (hm : ∀ z, [x].contains z = false → m' z = m₀ z) : m' = fun z => if z = x then m' x else m₀ z := by
  funext z
  by_cases h1 : z = x
  · rw [if_pos h1, h1]
  · rw [if_neg h1]
    exact hm z (by simp [h1])
theorem CtC.use0 {W : Wd} {need f : Nat} {pos : List Value} {kw : List (Str × Value)} {R : Tok → Value}
  {dp un : Nat} {gd : Option (List Code)} {cn : Str} {cs : Scope} {a : Addr} {ccd : Value} {cl : List (Str × Addr)} {A₀ : Around} {base h₀ : Heap} {L : Addr} {m : Str → Option Value} {news : Led} {s : Shared} {Q E : Value → Shared → Prop}
    (C : CtC W need f pos kw R) (B : Below A₀ base [] h₀) (F : Fr h₀ L s.heap m) (X : (hd.heap_39 W.w.params).In h₀) (N : News h₀ L s.heap news) (T : Top hd.view_39 Loo W.mean W.mg W.mb h₀) (hk : cs.kind = .function)
    (XB : (hd.heap_39 W.w.params).In base) (TB : Top hd.view_39 Loo W.mean W.mg W.mb base) (D : KtsDicts (([] : List Env).filterMap (·.frame)) h₀) (hdr : dp + need < recursionLimit) (hu : un + 8 * need < cLine)
    (ret : ∀ t h' tk' gs', Fr h₀ L h' m → News h₀ L h' news → GOk s.gens gs' → Q (R t) { s with heap := h', toks := tk', gens := gs' }) :
    wpAny (model Prg W.w) (ktrTop dp un gd cn cs L a ccd cl []) (call (.ref f) pos kw) Q E s :=
  C _ _ _ _ _ _ _ _ _ _ _ _ _ _ _ _ _ B F X T hk XB TB D hdr hu fun t h' tk' gs' hK hG => by
    obtain ⟨h₀', a1, a2, a3, _⟩ := turned F N B D XB TB rfl hK
    have up : ∀ b o, h₀.get? b = some o → h₀'.get? b = some o := fun b o e => a1.other b o e fun hm => nomatch hm
    refine ret t h' tk' gs' ⟨a2.ns, fun b o e => a2.keep b o (up b o e), by rw [← a1.size]; exact a2.above⟩ (fun p hp => ⟨(a3 p hp).1, (a3 p hp).2.1, ?_⟩) hG
    cases q : h₀.get? p.1 with
    | none => rfl
    | some o => have := (a3 p hp).2.2; rw [up _ _ q] at this; cases this
theorem byteArr_ints (b : Array UInt8) : byteArr (KBw.bInts b) = b := by
  obtain ⟨l⟩ := b
  show byteArr (l.map _) = _
  unfold byteArr
  rw [List.map_map]
  congr 1
  have : ∀ l : List UInt8, l.map ((fun i : Int => i.toNat.toUInt8) ∘ fun c : UInt8 => (c.toNat : Int)) = l := by
    intro l
    induction l with
    | nil => rfl
    | cons a l ih => rw [List.map_cons, ih]; simp
  exact this l
theorem holds_cut (W : Wd) (b : Array UInt8) (tb td : Tok) (ks : List Int) (d : Int) (e : KBw.bInts b = ks) (hl : ks.length ≤ 9) (hd : d = 62 ∨ d = 63) : CtC W 14 236 [.bytes b tb, .int d td] [] (fun _ => .bool true) := by
  have hb : b = byteArr ks := by rw [← e, byteArr_ints]
  have hi : KBa.In ks := fun c hc => KBw.ints_in (b := b) (by rw [e]; exact hc)
  subst hb
  rcases hd with rfl | rfl
  · exact ct_holds62 W ks tb td hi hl
  · exact ct_holds63 W ks tb td hi hl
theorem take9 {l : List Int} {n : Nat} (h : l.length ≤ 9) : (l.take n).length ≤ 9 := Nat.le_trans (List.length_take_le' n l) h
theorem gend {h₀ : Heap} {L : Addr} {m₀ m' : Str → Option Value} {stored : List Str} {led led' : Led} {gs gs' : Array GenState} {s : Shared} {R : Result → Shared → Prop} {h : Heap} {tk : Nat} (hG : GOk gs gs') (F : Fr h₀ L h m') (N : News h₀ L h led') (hs : ∀ p ∈ led, p ∈ led') (hm : ∀ z, stored.contains z = false → m' z = m₀ z) : GEnd h₀ L m₀ stored led gs s R .next { s with heap := h, toks := tk, gens := gs' } :=
  ⟨h, tk, gs', m', rfl, hG, F, fun p hp => N p (hs p hp), hm⟩
theorem ne_one {z x : Str} (h : [x].contains z = false) : z ≠ x := by rintro rfl; simp at h
theorem ne_two {z x y : Str} (h : [x, y].contains z = false) : z ≠ x ∧ z ≠ y := by
  constructor <;> (rintro rfl; simp at h)
theorem only_dot {z y : Str} (h : z ≠ y) : [y].contains z = false := by simp [h]
end
local macro_rules | `(tactic| walk_at "call ref") => `(tactic| ((with_reducible refine atR 236 ?_); k_dflt (refine' CtC.use0 (holds_cut _ _ _ _ _ _ ?kh0 ?kh1 ?kh2) ?kB ?kF ?kX ?kN ?kT ?kK ?kXB ?kTB ?kDD ?kD ?kU ?_; (case kh0 => assumption); (case kh1 => exact take9 (by assumption)); (case kh2 => first | exact Or.inl rfl | exact Or.inr rfl); walk_at "MYCTE"); (intro t9 h9 tk9 gs9 F9 N9 hG9; walk_at "MYD")))
section
theorem law0 : Challenge.rw_il0009_01.Holds := hd (by
  k_fill
  intro w s₀ s₁ mg mb G Y fa o pm cd doc dV kV ho hd1 hcd hD hmg hg args vals as hpre hlay hrd hwl hlo
  have KX := kIn_of Y
  have X := (Ground.X G).1
  have V := (Ground.X G).2
  try w_nolog (first | (have GL := glob_more (Ground.glob G (by first | k_qdec | decide +kernel) (by first | k_qdec | decide +kernel)) V) | (have GL := glob_more (Ground.glob G (by decide +kernel)) V))
  refine Ground.open G ?_
  intro T B D TE TW
  try (refine guard_noD D (by decide +kernel) ?_; clear D)
  obtain ⟨_, _, M⟩ := bmod_of_top T
  have TA := at_of_top T
  try (obtain ⟨_, _, he, B0⟩ := based_of_top T rfl hmg ho hd1; have he' : cd = _ := he; subst he'; clear he)
  clear hmg
  wrow_args hpre hlay hrd hwl hlo
  all_goals (
    first | refine callC_kw (enter_call ?_) | refine enter_call ?_ | refine callC_kw (enter_callW ?_) | refine enter_callW ?_ | w_how
    w_top on
    have K0 := below_caller (Top.heap T)
    w_call any ho hd1 hcd hD T F
    clear hd1 TA
    k_drop
    skip)
  have K1 : Below callerA s₁.heap [] s₁.heap := K0
  have D0 : KtsDicts (([] : List Env).filterMap (·.frame)) s₁.heap := ktsDicts_nil
  clear K0 Y G V X GL TE TW M hD hcd
  generalize hmean : ExcName.means (Shared.heap s₀) = mean at T
  obtain ⟨W, hWw, hWm, hWg, hWb⟩ : ∃ W : Wd, W.w = w ∧ W.mean = mean ∧ W.mg = mg ∧ W.mb = mb := ⟨⟨w, mean, mg, mb⟩, rfl, rfl, rfl, rfl⟩
  subst hWw hWm hWg hWb
  rename IntsAre _ _ => hIS
  (try k_fold)
  k_steps
  rename IntsAre _ (List.take 4 _) => hI4
  refine Hold.mk ?_
  refine LCg.CompSrc.ledger (by rfl) (by k_asm) (by k_asm) (by k_mem) (take4 hI4) ?_
  intro g'
  refine kcf_list (fun k => Int.fmod k (10 ^ 4)) hI4 ?_ ?_
  · intro k' t' I' oI' C' oC' D' m' ys' h' tk' E' hk' hC' hx' F' N' off' ne' mk'
    have hMark : KPfMark := mk'
    (try (simp only [LCg.Off3, and_true] at off'))
    k_steps
    exact kcf_el rfl rfl rfl
  · intro ys hys
    k_steps
    refine Hold.mk ?_
    refine LCg.CompSrc.ledger (by rfl) (by k_asm) (by k_asm) (by k_mem) (map4 hys) ?_
    intro g'
    refine kcf_list drawG hys ?_ ?_
    · intro k' t' I' oI' C' oC' D' m' ys' h' tk' E' hk' hC' hx' F' N' off' ne' mk'
      have hMark : KPfMark := mk'
      (try (simp only [LCg.Off3, and_true] at off'))
      k_steps
      refine IfExp_ ?_
      k_steps
    · intro ys hys2
      have hNl := row_len hys2
      have hNr := row_in hys2
      have hRl := row9 hNl
      have hRi := rowIn hNl
      k_steps
      rename Fr _ _ _ _ => fE9
      rename News _ _ _ _ => nE9
      rename IsRange _ _ _ _ _ _ _ _ => hR9
      refine Hold.mk ?_
      refine loop_range1 [Str.ofString "size", Str.ofString "dot"] rfl hR9 (Nat.le_trans hRl (by decide)) rfl rfl rfl fE9 nE9 ?_ ?_
      · intro i t h tk gs m' own hi hG hm FB NB
        clear fE9 nE9 hR9
        rw [two_names hm] at FB
        dsimp only at FB
        k_steps
        refine Hold.mk ?_
        rename Fr _ _ _ _ => fE9
        rename News _ _ _ _ => nE9
        refine loop_tuple (vs := [.int 62 _, .int 63 _]) [Str.ofString "dot"] rfl rfl rfl rfl fE9 nE9 (.head _) ?_ ?_
        · intro j v h tk gs m' own hj hG2 hm2 FB2 NB2
          clear fE9 nE9
          rw [one_name hm2] at FB2
          dsimp only at FB2
          have hj2 : j = 0 ∨ j = 1 := by
            have := (List.getElem?_eq_some_iff.mp hj).1
            simp at this; omega
          rcases hj2 with rfl | rfl
          all_goals (
            obtain rfl := Option.some.inj hj
            k_steps
            rename Fr _ _ _ _ => fZ9
            rename News _ _ _ _ => nZ9
            refine gend (by assumption) fZ9 nZ9 (fun _ h => h) ?_
            intro z hz
            have hz2 := ne_one hz
            simp only [if_neg hz2])
        · intro h tk gs m' hG2 hm2 FB2 NB2
          clear fE9 nE9
          dsimp only
          k_steps
          refine gend hG2 FB2 NB2 (fun _ h => .tail _ h) ?_
          intro z hz
          obtain ⟨hz2, hz3⟩ := ne_two hz
          rw [hm2 z (only_dot hz3)]
          simp only [if_neg hz2, if_neg hz3]
      · intro h tk gs m' hG hm FB NB
        clear fE9 nE9 hR9
        have hK9 := FB.keep
        rw [two_names hm] at FB
        dsimp only at FB
        dsimp only
        k_steps
        refine ⟨.inl ⟨.bool true, .bool true, [], rfl, raisesW_false ?_, .bool true, ?_, fun _ => ⟨.nil, fun _ ha => nomatch ha⟩⟩, .of_keep hK9, rfl, hG (AllBare.of_eq hg)⟩
        · wrow_none_raised
        · wrow_post
  )
end
end
end Mine
set_option maxRecDepth 100000 in
set_option maxHeartbeats 8000000 in
theorem PySem.Challenge.cw_il0009_01_holds : PySem.Challenge.rw_il0009_01.Holds := by
  exact Mine.law0
