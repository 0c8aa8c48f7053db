section
-- ===== PART A: goes FIRST, ahead of the names: the tables' words, and 'selects' of the private methods out of them =====
/-- a private method of a class that the tables say can be made, by its rows of tables_1 -/
def lw_okq (q : MethodName × Nat) : Prop := (q.1.cls ≠ "java/lang/invoke/MethodHandle" ∧ q.1.cls ≠ "java/lang/invoke/VarHandle") ∧ Cond.instantiable q.1.cls q.2 ∈ tables_1 ∧ Cond.privateMethod q.1 ∈ tables_1 ∧ Cond.instanceMethod q.1 ∈ tables_1
def lw_privs : List (MethodName × Nat) := []
def lw_tbl : List Cond := k2_sels lw_privs ++ tables_1
theorem lw_privs_ok : ∀ q ∈ lw_privs, lw_okq q := fun _ h => absurd h List.not_mem_nil
-- ===== ONE list of words for every method: the tables' words that hold all through a run =====
def lw_all : List Cond := lw_tbl.filter goodWord
/-- a word of the tables by its place: claim/WORDS.tsv -/
theorem lw_w {w : Cond} (i : Nat) (h : lw_tbl[i]? = some w) (g : goodWord w = true) : w ∈ lw_all := List.mem_filter.mpr ⟨List.mem_of_getElem? h, g⟩
theorem lw_all_tbl {w : Cond} (h : w ∈ lw_all) : w ∈ lw_tbl := (List.mem_filter.mp h).1
theorem lw_self : GoodIn lw_all lw_all := fun w h => ⟨h, good_of_word (List.mem_filter.mp h).2⟩
/-- a class's field words, by their places -/
theorem lw_in (ws : List Cond) (ps : List Nat) (hp : ws = ps.filterMap (fun i => lw_tbl[i]?)) (hg : ws.all goodWord = true) : ∀ w ∈ ws, w ∈ lw_all := by
  intro w h
  have h1 := List.all_eq_true.mp hg w h
  rw [hp] at h
  obtain ⟨i, -, hi⟩ := List.mem_filterMap.mp h
  exact lw_w i hi h1
/-- the words of a contract for the method y with code b, L locals, answer r -/
abbrev ws_ (y : MethodName) (b : ByteArray) (L : Nat) (r : Option FieldType) : List Cond := Cond.code y b L r :: lw_all
theorem lw_meth {y : MethodName} {b : ByteArray} {L : Nat} {r : Option FieldType} (h : Cond.code y b L r ∈ lw_all) : GoodIn lw_all (ws_ y b L r) := by
  intro w hw
  rcases List.mem_cons.mp hw with e | e
  · rw [e]
    exact lw_self _ h
  · exact lw_self _ e
theorem lw_app {a c : List Cond} (ha : ∀ w ∈ a, w ∈ lw_all) (hc : GoodIn lw_all c) : GoodIn lw_all (a ++ c) := by
  intro w hw
  rcases List.mem_append.mp hw with e | e
  · exact lw_self w (ha w e)
  · exact hc w e
/-- what a call through an object asks: cwV n hts (lw_V ..) -/
theorem lw_V {own : String} {idx : Nat} {C : String} {y : MethodName} {b : ByteArray} {L : Nat} {r : Option FieldType} (h1 : Cond.methodLink own idx y ∈ lw_all) (h2 : Cond.instanceMethod y ∈ lw_all) (h3 : Cond.selects C y y ∈ lw_all) (h4 : Cond.initialized C ∈ lw_all) (h5 : Cond.code y b L r ∈ lw_all) : GoodIn lw_all (wsV own idx C y (ws_ y b L r)) := by
  refine lw_app ?_ (lw_meth h5)
  intro w hw
  simp only [List.mem_cons, List.not_mem_nil, or_false] at hw
  rcases hw with e | e | e | e
  · rw [e]; exact h1
  · rw [e]; exact h2
  · rw [e]; exact h3
  · rw [e]; exact h4
/-- what a static call asks: va_cwS n hts (lw_S ..) -/
theorem lw_S {own : String} {idx : Nat} {y : MethodName} {b : ByteArray} {L : Nat} {r : Option FieldType} (h1 : Cond.methodLink own idx y ∈ lw_all) (h2 : Cond.static y ∈ lw_all) (h3 : Cond.initialized y.cls ∈ lw_all) (h4 : Cond.code y b L r ∈ lw_all) : GoodIn lw_all (va_wsS own idx y (ws_ y b L r)) := by
  refine lw_app ?_ (lw_meth h4)
  intro w hw
  simp only [List.mem_cons, List.not_mem_nil, or_false] at hw
  rcases hw with e | e | e
  · rw [e]; exact h1
  · rw [e]; exact h2
  · rw [e]; exact h3
/-- the words of a contract for a method WITH HANDLERS (hh: its table) -/
abbrev wsW_ (y : MethodName) (b : ByteArray) (L : Nat) (r : Option FieldType) (hh : List (Nat × Nat × Nat × Nat)) : List Cond := Cond.codeWith y b L r hh :: lw_all
theorem lw_methW {y : MethodName} {b : ByteArray} {L : Nat} {r : Option FieldType} {hh : List (Nat × Nat × Nat × Nat)} (h : Cond.codeWith y b L r hh ∈ lw_all) : GoodIn lw_all (wsW_ y b L r hh) := by
  intro w hw
  rcases List.mem_cons.mp hw with e | e
  · rw [e]
    exact lw_self _ h
  · exact lw_self _ e
/-- any list of words by their places (lw_in), good -/
theorem lw_good {ws : List Cond} (h : ∀ w ∈ ws, w ∈ lw_all) : GoodIn lw_all ws := fun w hw => lw_self w (h w hw)
/-- what a call of a method with handlers asks: vx_cwVW n hts (lw_VW ..), vx_cwSW n hts (lw_SW ..) -/
theorem lw_VW {own : String} {idx : Nat} {C : String} {y : MethodName} {b : ByteArray} {L : Nat} {r : Option FieldType} {hh : List (Nat × Nat × Nat × Nat)} (h1 : Cond.methodLink own idx y ∈ lw_all) (h2 : Cond.instanceMethod y ∈ lw_all) (h3 : Cond.selects C y y ∈ lw_all) (h4 : Cond.initialized C ∈ lw_all) (h5 : Cond.codeWith y b L r hh ∈ lw_all) : GoodIn lw_all (wsV own idx C y (wsW_ y b L r hh)) := by
  refine lw_app ?_ (lw_methW h5)
  intro w hw
  simp only [List.mem_cons, List.not_mem_nil, or_false] at hw
  rcases hw with e | e | e | e
  · rw [e]; exact h1
  · rw [e]; exact h2
  · rw [e]; exact h3
  · rw [e]; exact h4
theorem lw_SW {own : String} {idx : Nat} {y : MethodName} {b : ByteArray} {L : Nat} {r : Option FieldType} {hh : List (Nat × Nat × Nat × Nat)} (h1 : Cond.methodLink own idx y ∈ lw_all) (h2 : Cond.static y ∈ lw_all) (h3 : Cond.initialized y.cls ∈ lw_all) (h4 : Cond.codeWith y b L r hh ∈ lw_all) : GoodIn lw_all (va_wsS own idx y (wsW_ y b L r hh)) := by
  refine lw_app ?_ (lw_methW h4)
  intro w hw
  simp only [List.mem_cons, List.not_mem_nil, or_false] at hw
  rcases hw with e | e | e
  · rw [e]; exact h1
  · rw [e]; exact h2
  · rw [e]; exact h3
/-- a word by its place in its run of the tables -/
theorem lw_at {r : List Cond} (hr : ∀ w ∈ r, w ∈ lw_tbl) {w : Cond} (i : Nat) (h : r[i]? = some w) : w ∈ lw_tbl := hr w (List.mem_of_getElem? h)
theorem lw_g {w : Cond} (h : w ∈ lw_tbl) (g : goodWord w = true) : w ∈ lw_all := List.mem_filter.mpr ⟨h, g⟩
theorem lw_ms : ∀ w ∈ k2_sels lw_privs, w ∈ lw_tbl := fun w h => show w ∈ k2_sels lw_privs ++ tables_1 from List.mem_append_left _ h
theorem lw_m0 : ∀ w ∈ tables_1, w ∈ lw_tbl := fun w h => show w ∈ k2_sels lw_privs ++ tables_1 from List.mem_append_right (k2_sels lw_privs) h
-- ===== end of PART A; then your names; then what follows =====
/-! DECODE ROWS BY BYTES: one lemma an opcode; a method's code is cut into short pieces once, and a row reads its own piece alone. -/
set_option maxRecDepth 100000
/-- the code has just these bytes from pc on -/
def DkAt (code : ByteArray) (pc : Nat) (bs : List UInt8) : Prop := ∀ (j : Nat) (b : UInt8), bs[j]? = some b → code.data.toList[pc + j]? = some b
/-- the piece W has the bytes bs from its place j on -/
def dkIn (W : List UInt8) (j : Nat) (bs : List UInt8) : Bool := decide ((W.drop j).take bs.length = bs)
theorem dk_seg {l W T : List UInt8} {o o2 : Nat} (h : l.drop o = W ++ T) (n : Nat) (hn : W.length = n) (ho : o + n = o2) : l.drop o2 = T := by
  subst ho
  rw [← List.drop_drop, h, List.drop_left' hn]
theorem dk_at {code : ByteArray} {W T bs : List UInt8} {o pc : Nat} (h : code.data.toList.drop o = W ++ T) (j : Nat) (hp : o + j = pc) (hw : dkIn W j bs = true) : DkAt code pc bs := by
  subst hp
  intro i b e
  have h1 := of_decide_eq_true hw
  have h2 : i < bs.length := (List.getElem?_eq_some_iff.mp e).1
  have h3 : W[j + i]? = some b := by
    rw [← h1, List.getElem?_take, if_pos h2, List.getElem?_drop] at e
    exact e
  have h4 : j + i < W.length := (List.getElem?_eq_some_iff.mp h3).1
  have h5 : (code.data.toList.drop o)[j + i]? = some b := by
    rw [h, List.getElem?_append_left h4]
    exact h3
  rw [List.getElem?_drop, ← Nat.add_assoc] at h5
  exact h5
theorem dk_u1 {A : ByteArray} {p : Nat} {b : UInt8} (h : A.data.toList[p]? = some b) : (Reader.u1 : Reader DecodeError Nat) A p = .ok (b.toNat, p + 1) := by
  obtain ⟨h1, h2⟩ := List.getElem?_eq_some_iff.mp h
  have h3 : p < A.size := by simpa using h1
  have h4 : A[p]'h3 = b := h2
  have e : (Reader.u1 : Reader DecodeError Nat) A p = (if h : p < A.size then .ok (A[p].toNat, p + 1) else .error (HasTruncated.truncated p)) := by
    show (do if h : p < A.size then do set (p + 1); Pure.pure A[p].toNat else MonadExcept.throw (HasTruncated.truncated p) : Reader DecodeError Nat) A p = _
    by_cases hi : p < A.size
    · rw [dif_pos hi, dif_pos hi]; rfl
    · rw [dif_neg hi, dif_neg hi]; rfl
  rw [e, dif_pos h3, h4]
theorem dk_bind {α β : Type} {r : Reader DecodeError α} {f : α → Reader DecodeError β} {A : ByteArray} {p s : Nat} {a : α} (h : r A p = .ok (a, s)) : (r >>= f) A p = f a A s := by
  show (do let (a, s) ← r A p; f a A s : Except DecodeError (β × Nat)) = _
  rw [h]
  rfl
theorem dk_map {α β : Type} {r : Reader DecodeError α} {g : α → β} {A : ByteArray} {p s : Nat} {a : α} (h : r A p = .ok (a, s)) : (g <$> r) A p = .ok (g a, s) := by
  show (do let (a, s) ← r A p; .ok (g a, s) : Except DecodeError (β × Nat)) = _
  rw [h]
  rfl
theorem dk_u2 {A : ByteArray} {p : Nat} {a b : UInt8} (h : A.data.toList[p]? = some a) (h2 : A.data.toList[p + 1]? = some b) : (Reader.u2 : Reader DecodeError Nat) A p = .ok (a.toNat * 256 + b.toNat, p + 2) := by
  show (Reader.u1 >>= fun hi => Reader.u1 >>= fun lo => Pure.pure (hi * 256 + lo) : Reader DecodeError Nat) A p = _
  rw [dk_bind (dk_u1 h), dk_bind (dk_u1 h2)]
  rfl
theorem dk_of {code : ByteArray} {pc n : Nat} {i : Instr} (h : Decoder.instr pc code pc = .ok (i, pc + n)) : decode code pc = .ok (i, n) := by
  have e : decode code pc = (match Decoder.instr pc code pc with | .error x => .error x | .ok (j, s) => .ok (j, s - pc)) := by
    show (do let (j, s) ← Decoder.instr pc code pc; Pure.pure (j, s - pc) : Except DecodeError (Instr × Nat)) = _
    cases Decoder.instr pc code pc <;> rfl
  rw [e, h]
  show Except.ok (i, pc + n - pc) = _
  rw [Nat.add_sub_cancel_left]
theorem dk_2 {code : ByteArray} {pc : Nat} (h : DkAt code pc [2]) : decode code pc = .ok (.iconst (-1), 1) := dk_of ((dk_bind (dk_u1 (h 0 _ rfl))).trans rfl)
theorem dk_3 {code : ByteArray} {pc : Nat} (h : DkAt code pc [3]) : decode code pc = .ok (.iconst 0, 1) := dk_of ((dk_bind (dk_u1 (h 0 _ rfl))).trans rfl)
theorem dk_4 {code : ByteArray} {pc : Nat} (h : DkAt code pc [4]) : decode code pc = .ok (.iconst 1, 1) := dk_of ((dk_bind (dk_u1 (h 0 _ rfl))).trans rfl)
theorem dk_5 {code : ByteArray} {pc : Nat} (h : DkAt code pc [5]) : decode code pc = .ok (.iconst 2, 1) := dk_of ((dk_bind (dk_u1 (h 0 _ rfl))).trans rfl)
theorem dk_6 {code : ByteArray} {pc : Nat} (h : DkAt code pc [6]) : decode code pc = .ok (.iconst 3, 1) := dk_of ((dk_bind (dk_u1 (h 0 _ rfl))).trans rfl)
theorem dk_7 {code : ByteArray} {pc : Nat} (h : DkAt code pc [7]) : decode code pc = .ok (.iconst 4, 1) := dk_of ((dk_bind (dk_u1 (h 0 _ rfl))).trans rfl)
theorem dk_16 {code : ByteArray} {pc : Nat} (a : UInt8) (h : DkAt code pc [16, a]) : decode code pc = .ok (.bipush (Reader.signed 8 a.toNat), 2) := dk_of ((dk_bind (dk_u1 (h 0 _ rfl))).trans ((dk_bind (dk_map (dk_u1 (h 1 _ rfl)))).trans rfl))
theorem dk_17 {code : ByteArray} {pc : Nat} (a b : UInt8) (h : DkAt code pc [17, a, b]) : decode code pc = .ok (.sipush (Reader.signed 16 (a.toNat * 256 + b.toNat)), 3) := dk_of ((dk_bind (dk_u1 (h 0 _ rfl))).trans ((dk_bind (dk_map (dk_u2 (h 1 _ rfl) (h 2 _ rfl)))).trans rfl))
theorem dk_21 {code : ByteArray} {pc : Nat} (a : UInt8) (h : DkAt code pc [21, a]) : decode code pc = .ok (.iload a.toNat, 2) := dk_of ((dk_bind (dk_u1 (h 0 _ rfl))).trans ((dk_bind (dk_u1 (h 1 _ rfl))).trans rfl))
theorem dk_25 {code : ByteArray} {pc : Nat} (a : UInt8) (h : DkAt code pc [25, a]) : decode code pc = .ok (.aload a.toNat, 2) := dk_of ((dk_bind (dk_u1 (h 0 _ rfl))).trans ((dk_bind (dk_u1 (h 1 _ rfl))).trans rfl))
theorem dk_26 {code : ByteArray} {pc : Nat} (h : DkAt code pc [26]) : decode code pc = .ok (.iload_n 0, 1) := dk_of ((dk_bind (dk_u1 (h 0 _ rfl))).trans rfl)
theorem dk_27 {code : ByteArray} {pc : Nat} (h : DkAt code pc [27]) : decode code pc = .ok (.iload_n 1, 1) := dk_of ((dk_bind (dk_u1 (h 0 _ rfl))).trans rfl)
theorem dk_28 {code : ByteArray} {pc : Nat} (h : DkAt code pc [28]) : decode code pc = .ok (.iload_n 2, 1) := dk_of ((dk_bind (dk_u1 (h 0 _ rfl))).trans rfl)
theorem dk_29 {code : ByteArray} {pc : Nat} (h : DkAt code pc [29]) : decode code pc = .ok (.iload_n 3, 1) := dk_of ((dk_bind (dk_u1 (h 0 _ rfl))).trans rfl)
theorem dk_42 {code : ByteArray} {pc : Nat} (h : DkAt code pc [42]) : decode code pc = .ok (.aload_n 0, 1) := dk_of ((dk_bind (dk_u1 (h 0 _ rfl))).trans rfl)
theorem dk_43 {code : ByteArray} {pc : Nat} (h : DkAt code pc [43]) : decode code pc = .ok (.aload_n 1, 1) := dk_of ((dk_bind (dk_u1 (h 0 _ rfl))).trans rfl)
theorem dk_44 {code : ByteArray} {pc : Nat} (h : DkAt code pc [44]) : decode code pc = .ok (.aload_n 2, 1) := dk_of ((dk_bind (dk_u1 (h 0 _ rfl))).trans rfl)
theorem dk_45 {code : ByteArray} {pc : Nat} (h : DkAt code pc [45]) : decode code pc = .ok (.aload_n 3, 1) := dk_of ((dk_bind (dk_u1 (h 0 _ rfl))).trans rfl)
theorem dk_46 {code : ByteArray} {pc : Nat} (h : DkAt code pc [46]) : decode code pc = .ok (.iaload, 1) := dk_of ((dk_bind (dk_u1 (h 0 _ rfl))).trans rfl)
theorem dk_51 {code : ByteArray} {pc : Nat} (h : DkAt code pc [51]) : decode code pc = .ok (.baload, 1) := dk_of ((dk_bind (dk_u1 (h 0 _ rfl))).trans rfl)
theorem dk_54 {code : ByteArray} {pc : Nat} (a : UInt8) (h : DkAt code pc [54, a]) : decode code pc = .ok (.istore a.toNat, 2) := dk_of ((dk_bind (dk_u1 (h 0 _ rfl))).trans ((dk_bind (dk_u1 (h 1 _ rfl))).trans rfl))
theorem dk_58 {code : ByteArray} {pc : Nat} (a : UInt8) (h : DkAt code pc [58, a]) : decode code pc = .ok (.astore a.toNat, 2) := dk_of ((dk_bind (dk_u1 (h 0 _ rfl))).trans ((dk_bind (dk_u1 (h 1 _ rfl))).trans rfl))
theorem dk_59 {code : ByteArray} {pc : Nat} (h : DkAt code pc [59]) : decode code pc = .ok (.istore_n 0, 1) := dk_of ((dk_bind (dk_u1 (h 0 _ rfl))).trans rfl)
theorem dk_60 {code : ByteArray} {pc : Nat} (h : DkAt code pc [60]) : decode code pc = .ok (.istore_n 1, 1) := dk_of ((dk_bind (dk_u1 (h 0 _ rfl))).trans rfl)
theorem dk_61 {code : ByteArray} {pc : Nat} (h : DkAt code pc [61]) : decode code pc = .ok (.istore_n 2, 1) := dk_of ((dk_bind (dk_u1 (h 0 _ rfl))).trans rfl)
theorem dk_62 {code : ByteArray} {pc : Nat} (h : DkAt code pc [62]) : decode code pc = .ok (.istore_n 3, 1) := dk_of ((dk_bind (dk_u1 (h 0 _ rfl))).trans rfl)
theorem dk_76 {code : ByteArray} {pc : Nat} (h : DkAt code pc [76]) : decode code pc = .ok (.astore_n 1, 1) := dk_of ((dk_bind (dk_u1 (h 0 _ rfl))).trans rfl)
theorem dk_77 {code : ByteArray} {pc : Nat} (h : DkAt code pc [77]) : decode code pc = .ok (.astore_n 2, 1) := dk_of ((dk_bind (dk_u1 (h 0 _ rfl))).trans rfl)
theorem dk_78 {code : ByteArray} {pc : Nat} (h : DkAt code pc [78]) : decode code pc = .ok (.astore_n 3, 1) := dk_of ((dk_bind (dk_u1 (h 0 _ rfl))).trans rfl)
theorem dk_79 {code : ByteArray} {pc : Nat} (h : DkAt code pc [79]) : decode code pc = .ok (.iastore, 1) := dk_of ((dk_bind (dk_u1 (h 0 _ rfl))).trans rfl)
theorem dk_84 {code : ByteArray} {pc : Nat} (h : DkAt code pc [84]) : decode code pc = .ok (.bastore, 1) := dk_of ((dk_bind (dk_u1 (h 0 _ rfl))).trans rfl)
theorem dk_87 {code : ByteArray} {pc : Nat} (h : DkAt code pc [87]) : decode code pc = .ok (.pop, 1) := dk_of ((dk_bind (dk_u1 (h 0 _ rfl))).trans rfl)
theorem dk_89 {code : ByteArray} {pc : Nat} (h : DkAt code pc [89]) : decode code pc = .ok (.dup, 1) := dk_of ((dk_bind (dk_u1 (h 0 _ rfl))).trans rfl)
theorem dk_96 {code : ByteArray} {pc : Nat} (h : DkAt code pc [96]) : decode code pc = .ok (.iadd, 1) := dk_of ((dk_bind (dk_u1 (h 0 _ rfl))).trans rfl)
theorem dk_100 {code : ByteArray} {pc : Nat} (h : DkAt code pc [100]) : decode code pc = .ok (.isub, 1) := dk_of ((dk_bind (dk_u1 (h 0 _ rfl))).trans rfl)
theorem dk_104 {code : ByteArray} {pc : Nat} (h : DkAt code pc [104]) : decode code pc = .ok (.imul, 1) := dk_of ((dk_bind (dk_u1 (h 0 _ rfl))).trans rfl)
theorem dk_116 {code : ByteArray} {pc : Nat} (h : DkAt code pc [116]) : decode code pc = .ok (.ineg, 1) := dk_of ((dk_bind (dk_u1 (h 0 _ rfl))).trans rfl)
theorem dk_120 {code : ByteArray} {pc : Nat} (h : DkAt code pc [120]) : decode code pc = .ok (.ishl, 1) := dk_of ((dk_bind (dk_u1 (h 0 _ rfl))).trans rfl)
theorem dk_122 {code : ByteArray} {pc : Nat} (h : DkAt code pc [122]) : decode code pc = .ok (.ishr, 1) := dk_of ((dk_bind (dk_u1 (h 0 _ rfl))).trans rfl)
theorem dk_124 {code : ByteArray} {pc : Nat} (h : DkAt code pc [124]) : decode code pc = .ok (.iushr, 1) := dk_of ((dk_bind (dk_u1 (h 0 _ rfl))).trans rfl)
theorem dk_126 {code : ByteArray} {pc : Nat} (h : DkAt code pc [126]) : decode code pc = .ok (.iand, 1) := dk_of ((dk_bind (dk_u1 (h 0 _ rfl))).trans rfl)
theorem dk_128 {code : ByteArray} {pc : Nat} (h : DkAt code pc [128]) : decode code pc = .ok (.ior, 1) := dk_of ((dk_bind (dk_u1 (h 0 _ rfl))).trans rfl)
theorem dk_130 {code : ByteArray} {pc : Nat} (h : DkAt code pc [130]) : decode code pc = .ok (.ixor, 1) := dk_of ((dk_bind (dk_u1 (h 0 _ rfl))).trans rfl)
theorem dk_132 {code : ByteArray} {pc : Nat} (a b : UInt8) (h : DkAt code pc [132, a, b]) : decode code pc = .ok (.iinc a.toNat (Reader.signed 8 b.toNat), 3) := dk_of ((dk_bind (dk_u1 (h 0 _ rfl))).trans ((dk_bind (dk_u1 (h 1 _ rfl))).trans ((dk_bind (dk_map (dk_u1 (h 2 _ rfl)))).trans rfl)))
theorem dk_153 {code : ByteArray} {pc : Nat} (a b : UInt8) (h : DkAt code pc [153, a, b]) : decode code pc = .ok (.ifCond .eq (Reader.signed 16 (a.toNat * 256 + b.toNat)), 3) := dk_of ((dk_bind (dk_u1 (h 0 _ rfl))).trans ((dk_bind (dk_map (dk_u2 (h 1 _ rfl) (h 2 _ rfl)))).trans rfl))
theorem dk_154 {code : ByteArray} {pc : Nat} (a b : UInt8) (h : DkAt code pc [154, a, b]) : decode code pc = .ok (.ifCond .ne (Reader.signed 16 (a.toNat * 256 + b.toNat)), 3) := dk_of ((dk_bind (dk_u1 (h 0 _ rfl))).trans ((dk_bind (dk_map (dk_u2 (h 1 _ rfl) (h 2 _ rfl)))).trans rfl))
theorem dk_155 {code : ByteArray} {pc : Nat} (a b : UInt8) (h : DkAt code pc [155, a, b]) : decode code pc = .ok (.ifCond .lt (Reader.signed 16 (a.toNat * 256 + b.toNat)), 3) := dk_of ((dk_bind (dk_u1 (h 0 _ rfl))).trans ((dk_bind (dk_map (dk_u2 (h 1 _ rfl) (h 2 _ rfl)))).trans rfl))
theorem dk_158 {code : ByteArray} {pc : Nat} (a b : UInt8) (h : DkAt code pc [158, a, b]) : decode code pc = .ok (.ifCond .le (Reader.signed 16 (a.toNat * 256 + b.toNat)), 3) := dk_of ((dk_bind (dk_u1 (h 0 _ rfl))).trans ((dk_bind (dk_map (dk_u2 (h 1 _ rfl) (h 2 _ rfl)))).trans rfl))
theorem dk_159 {code : ByteArray} {pc : Nat} (a b : UInt8) (h : DkAt code pc [159, a, b]) : decode code pc = .ok (.if_icmp .eq (Reader.signed 16 (a.toNat * 256 + b.toNat)), 3) := dk_of ((dk_bind (dk_u1 (h 0 _ rfl))).trans ((dk_bind (dk_map (dk_u2 (h 1 _ rfl) (h 2 _ rfl)))).trans rfl))
theorem dk_160 {code : ByteArray} {pc : Nat} (a b : UInt8) (h : DkAt code pc [160, a, b]) : decode code pc = .ok (.if_icmp .ne (Reader.signed 16 (a.toNat * 256 + b.toNat)), 3) := dk_of ((dk_bind (dk_u1 (h 0 _ rfl))).trans ((dk_bind (dk_map (dk_u2 (h 1 _ rfl) (h 2 _ rfl)))).trans rfl))
theorem dk_161 {code : ByteArray} {pc : Nat} (a b : UInt8) (h : DkAt code pc [161, a, b]) : decode code pc = .ok (.if_icmp .lt (Reader.signed 16 (a.toNat * 256 + b.toNat)), 3) := dk_of ((dk_bind (dk_u1 (h 0 _ rfl))).trans ((dk_bind (dk_map (dk_u2 (h 1 _ rfl) (h 2 _ rfl)))).trans rfl))
theorem dk_162 {code : ByteArray} {pc : Nat} (a b : UInt8) (h : DkAt code pc [162, a, b]) : decode code pc = .ok (.if_icmp .ge (Reader.signed 16 (a.toNat * 256 + b.toNat)), 3) := dk_of ((dk_bind (dk_u1 (h 0 _ rfl))).trans ((dk_bind (dk_map (dk_u2 (h 1 _ rfl) (h 2 _ rfl)))).trans rfl))
theorem dk_163 {code : ByteArray} {pc : Nat} (a b : UInt8) (h : DkAt code pc [163, a, b]) : decode code pc = .ok (.if_icmp .gt (Reader.signed 16 (a.toNat * 256 + b.toNat)), 3) := dk_of ((dk_bind (dk_u1 (h 0 _ rfl))).trans ((dk_bind (dk_map (dk_u2 (h 1 _ rfl) (h 2 _ rfl)))).trans rfl))
theorem dk_164 {code : ByteArray} {pc : Nat} (a b : UInt8) (h : DkAt code pc [164, a, b]) : decode code pc = .ok (.if_icmp .le (Reader.signed 16 (a.toNat * 256 + b.toNat)), 3) := dk_of ((dk_bind (dk_u1 (h 0 _ rfl))).trans ((dk_bind (dk_map (dk_u2 (h 1 _ rfl) (h 2 _ rfl)))).trans rfl))
theorem dk_167 {code : ByteArray} {pc : Nat} (a b : UInt8) (h : DkAt code pc [167, a, b]) : decode code pc = .ok (.goto (Reader.signed 16 (a.toNat * 256 + b.toNat)), 3) := dk_of ((dk_bind (dk_u1 (h 0 _ rfl))).trans ((dk_bind (dk_map (dk_u2 (h 1 _ rfl) (h 2 _ rfl)))).trans rfl))
theorem dk_172 {code : ByteArray} {pc : Nat} (h : DkAt code pc [172]) : decode code pc = .ok (.ireturn, 1) := dk_of ((dk_bind (dk_u1 (h 0 _ rfl))).trans rfl)
theorem dk_177 {code : ByteArray} {pc : Nat} (h : DkAt code pc [177]) : decode code pc = .ok (.return_, 1) := dk_of ((dk_bind (dk_u1 (h 0 _ rfl))).trans rfl)
theorem dk_180 {code : ByteArray} {pc : Nat} (a b : UInt8) (h : DkAt code pc [180, a, b]) : decode code pc = .ok (.getfield (a.toNat * 256 + b.toNat), 3) := dk_of ((dk_bind (dk_u1 (h 0 _ rfl))).trans ((dk_bind (dk_u2 (h 1 _ rfl) (h 2 _ rfl))).trans rfl))
theorem dk_181 {code : ByteArray} {pc : Nat} (a b : UInt8) (h : DkAt code pc [181, a, b]) : decode code pc = .ok (.putfield (a.toNat * 256 + b.toNat), 3) := dk_of ((dk_bind (dk_u1 (h 0 _ rfl))).trans ((dk_bind (dk_u2 (h 1 _ rfl) (h 2 _ rfl))).trans rfl))
theorem dk_182 {code : ByteArray} {pc : Nat} (a b : UInt8) (h : DkAt code pc [182, a, b]) : decode code pc = .ok (.invokevirtual (a.toNat * 256 + b.toNat), 3) := dk_of ((dk_bind (dk_u1 (h 0 _ rfl))).trans ((dk_bind (dk_u2 (h 1 _ rfl) (h 2 _ rfl))).trans rfl))
theorem dk_183 {code : ByteArray} {pc : Nat} (a b : UInt8) (h : DkAt code pc [183, a, b]) : decode code pc = .ok (.invokespecial (a.toNat * 256 + b.toNat), 3) := dk_of ((dk_bind (dk_u1 (h 0 _ rfl))).trans ((dk_bind (dk_u2 (h 1 _ rfl) (h 2 _ rfl))).trans rfl))
theorem dk_184 {code : ByteArray} {pc : Nat} (a b : UInt8) (h : DkAt code pc [184, a, b]) : decode code pc = .ok (.invokestatic (a.toNat * 256 + b.toNat), 3) := dk_of ((dk_bind (dk_u1 (h 0 _ rfl))).trans ((dk_bind (dk_u2 (h 1 _ rfl) (h 2 _ rfl))).trans rfl))
theorem dk_187 {code : ByteArray} {pc : Nat} (a b : UInt8) (h : DkAt code pc [187, a, b]) : decode code pc = .ok (.new (a.toNat * 256 + b.toNat), 3) := dk_of ((dk_bind (dk_u1 (h 0 _ rfl))).trans ((dk_bind (dk_u2 (h 1 _ rfl) (h 2 _ rfl))).trans rfl))
theorem dk_188_4 {code : ByteArray} {pc : Nat} (h : DkAt code pc [188, 4]) : decode code pc = .ok (.newarray .boolean, 2) := dk_of ((dk_bind (dk_u1 (h 0 _ rfl))).trans ((dk_bind (dk_u1 (h 1 _ rfl))).trans rfl))
theorem dk_188_10 {code : ByteArray} {pc : Nat} (h : DkAt code pc [188, 10]) : decode code pc = .ok (.newarray .int, 2) := dk_of ((dk_bind (dk_u1 (h 0 _ rfl))).trans ((dk_bind (dk_u1 (h 1 _ rfl))).trans rfl))
theorem dk_190 {code : ByteArray} {pc : Nat} (h : DkAt code pc [190]) : decode code pc = .ok (.arraylength, 1) := dk_of ((dk_bind (dk_u1 (h 0 _ rfl))).trans rfl)
end
section
/-! java/lang/Object -/
set_option maxRecDepth 100000
def RJ0 : String := "java/lang/Object"
abbrev cJ0_init : ByteArray := object_method_1_code
def yJ0_init : MethodName := ⟨RJ0, "<init>", "()V"⟩
theorem dJ0_init_0 : decode cJ0_init 0 = .ok (.return_, 1) := by decide +kernel
theorem q9 : (Jvm.Cond.instanceMethod ({ cls := "java/lang/Object", name := "<init>", desc := "()V" } : Jvm.MethodName)) ∈ lw_all := lw_g (lw_at lw_m0 9 rfl) rfl
theorem q10 : (Jvm.Cond.code ({ cls := "java/lang/Object", name := "<init>", desc := "()V" } : Jvm.MethodName) object_method_1_code (1 : Nat) (Option.none : Option Jvm.ClassFile.FieldType)) ∈ lw_all := lw_g (lw_at lw_m0 10 rfl) rfl
/-! GF -/
set_option maxRecDepth 100000
def RX2 : String := "GF"
abbrev cX2_mul : ByteArray := prog_3_method_3_code
def yX2_mul : MethodName := ⟨RX2, "mul", "(II)I"⟩
def dkwX2_mul_1 : List UInt8 := [126, 130, 61, 132, 3, 1, 167, 255, 230, 28, 184, 0, 9, 172]
abbrev dktX2_mul_1 : List UInt8 := dkwX2_mul_1 ++ []
def dkwX2_mul_0 : List UInt8 := [3, 61, 3, 62, 29, 16, 8, 162, 0, 26, 27, 29, 124, 4, 126, 116, 54, 4, 28, 21, 4, 26, 29, 120]
abbrev dktX2_mul_0 : List UInt8 := dkwX2_mul_0 ++ dktX2_mul_1
theorem dksX2_mul_0 : cX2_mul.data.toList.drop 0 = dktX2_mul_0 := by decide +kernel
theorem dksX2_mul_1 : cX2_mul.data.toList.drop 24 = dktX2_mul_1 := dk_seg dksX2_mul_0 24 rfl rfl
theorem dX2_mul_0 : decode cX2_mul 0 = .ok (.iconst 0, 1) := dk_3 (dk_at dksX2_mul_0 0 rfl rfl)
theorem dX2_mul_1 : decode cX2_mul 1 = .ok (.istore_n 2, 1) := dk_61 (dk_at dksX2_mul_0 1 rfl rfl)
theorem dX2_mul_2 : decode cX2_mul 2 = .ok (.iconst 0, 1) := dk_3 (dk_at dksX2_mul_0 2 rfl rfl)
theorem dX2_mul_3 : decode cX2_mul 3 = .ok (.istore_n 3, 1) := dk_62 (dk_at dksX2_mul_0 3 rfl rfl)
theorem dX2_mul_4 : decode cX2_mul 4 = .ok (.iload_n 3, 1) := dk_29 (dk_at dksX2_mul_0 4 rfl rfl)
theorem dX2_mul_5 : decode cX2_mul 5 = .ok (.bipush 8, 2) := dk_16 8 (dk_at dksX2_mul_0 5 rfl rfl)
theorem dX2_mul_7 : decode cX2_mul 7 = .ok (.if_icmp .ge 26, 3) := dk_162 0 26 (dk_at dksX2_mul_0 7 rfl rfl)
theorem dX2_mul_10 : decode cX2_mul 10 = .ok (.iload_n 1, 1) := dk_27 (dk_at dksX2_mul_0 10 rfl rfl)
theorem dX2_mul_11 : decode cX2_mul 11 = .ok (.iload_n 3, 1) := dk_29 (dk_at dksX2_mul_0 11 rfl rfl)
theorem dX2_mul_12 : decode cX2_mul 12 = .ok (.iushr, 1) := dk_124 (dk_at dksX2_mul_0 12 rfl rfl)
theorem dX2_mul_13 : decode cX2_mul 13 = .ok (.iconst 1, 1) := dk_4 (dk_at dksX2_mul_0 13 rfl rfl)
theorem dX2_mul_14 : decode cX2_mul 14 = .ok (.iand, 1) := dk_126 (dk_at dksX2_mul_0 14 rfl rfl)
theorem dX2_mul_15 : decode cX2_mul 15 = .ok (.ineg, 1) := dk_116 (dk_at dksX2_mul_0 15 rfl rfl)
theorem dX2_mul_16 : decode cX2_mul 16 = .ok (.istore 4, 2) := dk_54 4 (dk_at dksX2_mul_0 16 rfl rfl)
theorem dX2_mul_18 : decode cX2_mul 18 = .ok (.iload_n 2, 1) := dk_28 (dk_at dksX2_mul_0 18 rfl rfl)
theorem dX2_mul_19 : decode cX2_mul 19 = .ok (.iload 4, 2) := dk_21 4 (dk_at dksX2_mul_0 19 rfl rfl)
theorem dX2_mul_21 : decode cX2_mul 21 = .ok (.iload_n 0, 1) := dk_26 (dk_at dksX2_mul_0 21 rfl rfl)
theorem dX2_mul_22 : decode cX2_mul 22 = .ok (.iload_n 3, 1) := dk_29 (dk_at dksX2_mul_0 22 rfl rfl)
theorem dX2_mul_23 : decode cX2_mul 23 = .ok (.ishl, 1) := dk_120 (dk_at dksX2_mul_0 23 rfl rfl)
theorem dX2_mul_24 : decode cX2_mul 24 = .ok (.iand, 1) := dk_126 (dk_at dksX2_mul_1 0 rfl rfl)
theorem dX2_mul_25 : decode cX2_mul 25 = .ok (.ixor, 1) := dk_130 (dk_at dksX2_mul_1 1 rfl rfl)
theorem dX2_mul_26 : decode cX2_mul 26 = .ok (.istore_n 2, 1) := dk_61 (dk_at dksX2_mul_1 2 rfl rfl)
theorem dX2_mul_27 : decode cX2_mul 27 = .ok (.iinc 3 1, 3) := dk_132 3 1 (dk_at dksX2_mul_1 3 rfl rfl)
theorem dX2_mul_30 : decode cX2_mul 30 = .ok (.goto (-26), 3) := dk_167 255 230 (dk_at dksX2_mul_1 6 rfl rfl)
theorem dX2_mul_33 : decode cX2_mul 33 = .ok (.iload_n 2, 1) := dk_28 (dk_at dksX2_mul_1 9 rfl rfl)
theorem dX2_mul_34 : decode cX2_mul 34 = .ok (.invokestatic 9, 3) := dk_184 0 9 (dk_at dksX2_mul_1 10 rfl rfl)
theorem dX2_mul_37 : decode cX2_mul 37 = .ok (.ireturn, 1) := dk_172 (dk_at dksX2_mul_1 13 rfl rfl)
abbrev cX2_reduce : ByteArray := prog_3_method_2_code
def yX2_reduce : MethodName := ⟨RX2, "reduce", "(I)I"⟩
def dkwX2_reduce_1 : List UInt8 := [100, 120, 126, 130, 59, 132, 1, 255, 167, 255, 227, 26, 17, 0, 255, 126, 172]
abbrev dktX2_reduce_1 : List UInt8 := dkwX2_reduce_1 ++ []
def dkwX2_reduce_0 : List UInt8 := [16, 14, 60, 27, 16, 8, 161, 0, 29, 26, 27, 124, 4, 126, 116, 61, 26, 28, 17, 1, 29, 27, 16, 8]
abbrev dktX2_reduce_0 : List UInt8 := dkwX2_reduce_0 ++ dktX2_reduce_1
theorem dksX2_reduce_0 : cX2_reduce.data.toList.drop 0 = dktX2_reduce_0 := by decide +kernel
theorem dksX2_reduce_1 : cX2_reduce.data.toList.drop 24 = dktX2_reduce_1 := dk_seg dksX2_reduce_0 24 rfl rfl
theorem dX2_reduce_0 : decode cX2_reduce 0 = .ok (.bipush 14, 2) := dk_16 14 (dk_at dksX2_reduce_0 0 rfl rfl)
theorem dX2_reduce_2 : decode cX2_reduce 2 = .ok (.istore_n 1, 1) := dk_60 (dk_at dksX2_reduce_0 2 rfl rfl)
theorem dX2_reduce_3 : decode cX2_reduce 3 = .ok (.iload_n 1, 1) := dk_27 (dk_at dksX2_reduce_0 3 rfl rfl)
theorem dX2_reduce_4 : decode cX2_reduce 4 = .ok (.bipush 8, 2) := dk_16 8 (dk_at dksX2_reduce_0 4 rfl rfl)
theorem dX2_reduce_6 : decode cX2_reduce 6 = .ok (.if_icmp .lt 29, 3) := dk_161 0 29 (dk_at dksX2_reduce_0 6 rfl rfl)
theorem dX2_reduce_9 : decode cX2_reduce 9 = .ok (.iload_n 0, 1) := dk_26 (dk_at dksX2_reduce_0 9 rfl rfl)
theorem dX2_reduce_10 : decode cX2_reduce 10 = .ok (.iload_n 1, 1) := dk_27 (dk_at dksX2_reduce_0 10 rfl rfl)
theorem dX2_reduce_11 : decode cX2_reduce 11 = .ok (.iushr, 1) := dk_124 (dk_at dksX2_reduce_0 11 rfl rfl)
theorem dX2_reduce_12 : decode cX2_reduce 12 = .ok (.iconst 1, 1) := dk_4 (dk_at dksX2_reduce_0 12 rfl rfl)
theorem dX2_reduce_13 : decode cX2_reduce 13 = .ok (.iand, 1) := dk_126 (dk_at dksX2_reduce_0 13 rfl rfl)
theorem dX2_reduce_14 : decode cX2_reduce 14 = .ok (.ineg, 1) := dk_116 (dk_at dksX2_reduce_0 14 rfl rfl)
theorem dX2_reduce_15 : decode cX2_reduce 15 = .ok (.istore_n 2, 1) := dk_61 (dk_at dksX2_reduce_0 15 rfl rfl)
theorem dX2_reduce_16 : decode cX2_reduce 16 = .ok (.iload_n 0, 1) := dk_26 (dk_at dksX2_reduce_0 16 rfl rfl)
theorem dX2_reduce_17 : decode cX2_reduce 17 = .ok (.iload_n 2, 1) := dk_28 (dk_at dksX2_reduce_0 17 rfl rfl)
theorem dX2_reduce_18 : decode cX2_reduce 18 = .ok (.sipush 285, 3) := dk_17 1 29 (dk_at dksX2_reduce_0 18 rfl rfl)
theorem dX2_reduce_21 : decode cX2_reduce 21 = .ok (.iload_n 1, 1) := dk_27 (dk_at dksX2_reduce_0 21 rfl rfl)
theorem dX2_reduce_22 : decode cX2_reduce 22 = .ok (.bipush 8, 2) := dk_16 8 (dk_at dksX2_reduce_0 22 rfl rfl)
theorem dX2_reduce_24 : decode cX2_reduce 24 = .ok (.isub, 1) := dk_100 (dk_at dksX2_reduce_1 0 rfl rfl)
theorem dX2_reduce_25 : decode cX2_reduce 25 = .ok (.ishl, 1) := dk_120 (dk_at dksX2_reduce_1 1 rfl rfl)
theorem dX2_reduce_26 : decode cX2_reduce 26 = .ok (.iand, 1) := dk_126 (dk_at dksX2_reduce_1 2 rfl rfl)
theorem dX2_reduce_27 : decode cX2_reduce 27 = .ok (.ixor, 1) := dk_130 (dk_at dksX2_reduce_1 3 rfl rfl)
theorem dX2_reduce_28 : decode cX2_reduce 28 = .ok (.istore_n 0, 1) := dk_59 (dk_at dksX2_reduce_1 4 rfl rfl)
theorem dX2_reduce_29 : decode cX2_reduce 29 = .ok (.iinc 1 (-1), 3) := dk_132 1 255 (dk_at dksX2_reduce_1 5 rfl rfl)
theorem dX2_reduce_32 : decode cX2_reduce 32 = .ok (.goto (-29), 3) := dk_167 255 227 (dk_at dksX2_reduce_1 8 rfl rfl)
theorem dX2_reduce_35 : decode cX2_reduce 35 = .ok (.iload_n 0, 1) := dk_26 (dk_at dksX2_reduce_1 11 rfl rfl)
theorem dX2_reduce_36 : decode cX2_reduce 36 = .ok (.sipush 255, 3) := dk_17 0 255 (dk_at dksX2_reduce_1 12 rfl rfl)
theorem dX2_reduce_39 : decode cX2_reduce 39 = .ok (.iand, 1) := dk_126 (dk_at dksX2_reduce_1 15 rfl rfl)
theorem dX2_reduce_40 : decode cX2_reduce 40 = .ok (.ireturn, 1) := dk_172 (dk_at dksX2_reduce_1 16 rfl rfl)
abbrev cX2_mul3 : ByteArray := prog_3_method_4_code
def yX2_mul3 : MethodName := ⟨RX2, "mul3", "(III)I"⟩
def dkwX2_mul3_0 : List UInt8 := [26, 27, 184, 0, 13, 28, 184, 0, 13, 172]
abbrev dktX2_mul3_0 : List UInt8 := dkwX2_mul3_0 ++ []
theorem dksX2_mul3_0 : cX2_mul3.data.toList.drop 0 = dktX2_mul3_0 := by decide +kernel
theorem dX2_mul3_0 : decode cX2_mul3 0 = .ok (.iload_n 0, 1) := dk_26 (dk_at dksX2_mul3_0 0 rfl rfl)
theorem dX2_mul3_1 : decode cX2_mul3 1 = .ok (.iload_n 1, 1) := dk_27 (dk_at dksX2_mul3_0 1 rfl rfl)
theorem dX2_mul3_2 : decode cX2_mul3 2 = .ok (.invokestatic 13, 3) := dk_184 0 13 (dk_at dksX2_mul3_0 2 rfl rfl)
theorem dX2_mul3_5 : decode cX2_mul3 5 = .ok (.iload_n 2, 1) := dk_28 (dk_at dksX2_mul3_0 5 rfl rfl)
theorem dX2_mul3_6 : decode cX2_mul3 6 = .ok (.invokestatic 13, 3) := dk_184 0 13 (dk_at dksX2_mul3_0 6 rfl rfl)
theorem dX2_mul3_9 : decode cX2_mul3 9 = .ok (.ireturn, 1) := dk_172 (dk_at dksX2_mul3_0 9 rfl rfl)
abbrev cX2_sqr : ByteArray := prog_3_method_5_code
def yX2_sqr : MethodName := ⟨RX2, "sqr", "(I)I"⟩
def dkwX2_sqr_1 : List UInt8 := [4, 120, 128, 17, 85, 85, 126, 60, 27, 184, 0, 9, 172]
abbrev dktX2_sqr_1 : List UInt8 := dkwX2_sqr_1 ++ []
def dkwX2_sqr_0 : List UInt8 := [26, 60, 27, 27, 7, 120, 128, 17, 15, 15, 126, 60, 27, 27, 5, 120, 128, 17, 51, 51, 126, 60, 27, 27]
abbrev dktX2_sqr_0 : List UInt8 := dkwX2_sqr_0 ++ dktX2_sqr_1
theorem dksX2_sqr_0 : cX2_sqr.data.toList.drop 0 = dktX2_sqr_0 := by decide +kernel
theorem dksX2_sqr_1 : cX2_sqr.data.toList.drop 24 = dktX2_sqr_1 := dk_seg dksX2_sqr_0 24 rfl rfl
theorem dX2_sqr_0 : decode cX2_sqr 0 = .ok (.iload_n 0, 1) := dk_26 (dk_at dksX2_sqr_0 0 rfl rfl)
theorem dX2_sqr_1 : decode cX2_sqr 1 = .ok (.istore_n 1, 1) := dk_60 (dk_at dksX2_sqr_0 1 rfl rfl)
theorem dX2_sqr_2 : decode cX2_sqr 2 = .ok (.iload_n 1, 1) := dk_27 (dk_at dksX2_sqr_0 2 rfl rfl)
theorem dX2_sqr_3 : decode cX2_sqr 3 = .ok (.iload_n 1, 1) := dk_27 (dk_at dksX2_sqr_0 3 rfl rfl)
theorem dX2_sqr_4 : decode cX2_sqr 4 = .ok (.iconst 4, 1) := dk_7 (dk_at dksX2_sqr_0 4 rfl rfl)
theorem dX2_sqr_5 : decode cX2_sqr 5 = .ok (.ishl, 1) := dk_120 (dk_at dksX2_sqr_0 5 rfl rfl)
theorem dX2_sqr_6 : decode cX2_sqr 6 = .ok (.ior, 1) := dk_128 (dk_at dksX2_sqr_0 6 rfl rfl)
theorem dX2_sqr_7 : decode cX2_sqr 7 = .ok (.sipush 3855, 3) := dk_17 15 15 (dk_at dksX2_sqr_0 7 rfl rfl)
theorem dX2_sqr_10 : decode cX2_sqr 10 = .ok (.iand, 1) := dk_126 (dk_at dksX2_sqr_0 10 rfl rfl)
theorem dX2_sqr_11 : decode cX2_sqr 11 = .ok (.istore_n 1, 1) := dk_60 (dk_at dksX2_sqr_0 11 rfl rfl)
theorem dX2_sqr_12 : decode cX2_sqr 12 = .ok (.iload_n 1, 1) := dk_27 (dk_at dksX2_sqr_0 12 rfl rfl)
theorem dX2_sqr_13 : decode cX2_sqr 13 = .ok (.iload_n 1, 1) := dk_27 (dk_at dksX2_sqr_0 13 rfl rfl)
theorem dX2_sqr_14 : decode cX2_sqr 14 = .ok (.iconst 2, 1) := dk_5 (dk_at dksX2_sqr_0 14 rfl rfl)
theorem dX2_sqr_15 : decode cX2_sqr 15 = .ok (.ishl, 1) := dk_120 (dk_at dksX2_sqr_0 15 rfl rfl)
theorem dX2_sqr_16 : decode cX2_sqr 16 = .ok (.ior, 1) := dk_128 (dk_at dksX2_sqr_0 16 rfl rfl)
theorem dX2_sqr_17 : decode cX2_sqr 17 = .ok (.sipush 13107, 3) := dk_17 51 51 (dk_at dksX2_sqr_0 17 rfl rfl)
theorem dX2_sqr_20 : decode cX2_sqr 20 = .ok (.iand, 1) := dk_126 (dk_at dksX2_sqr_0 20 rfl rfl)
theorem dX2_sqr_21 : decode cX2_sqr 21 = .ok (.istore_n 1, 1) := dk_60 (dk_at dksX2_sqr_0 21 rfl rfl)
theorem dX2_sqr_22 : decode cX2_sqr 22 = .ok (.iload_n 1, 1) := dk_27 (dk_at dksX2_sqr_0 22 rfl rfl)
theorem dX2_sqr_23 : decode cX2_sqr 23 = .ok (.iload_n 1, 1) := dk_27 (dk_at dksX2_sqr_0 23 rfl rfl)
theorem dX2_sqr_24 : decode cX2_sqr 24 = .ok (.iconst 1, 1) := dk_4 (dk_at dksX2_sqr_1 0 rfl rfl)
theorem dX2_sqr_25 : decode cX2_sqr 25 = .ok (.ishl, 1) := dk_120 (dk_at dksX2_sqr_1 1 rfl rfl)
theorem dX2_sqr_26 : decode cX2_sqr 26 = .ok (.ior, 1) := dk_128 (dk_at dksX2_sqr_1 2 rfl rfl)
theorem dX2_sqr_27 : decode cX2_sqr 27 = .ok (.sipush 21845, 3) := dk_17 85 85 (dk_at dksX2_sqr_1 3 rfl rfl)
theorem dX2_sqr_30 : decode cX2_sqr 30 = .ok (.iand, 1) := dk_126 (dk_at dksX2_sqr_1 6 rfl rfl)
theorem dX2_sqr_31 : decode cX2_sqr 31 = .ok (.istore_n 1, 1) := dk_60 (dk_at dksX2_sqr_1 7 rfl rfl)
theorem dX2_sqr_32 : decode cX2_sqr 32 = .ok (.iload_n 1, 1) := dk_27 (dk_at dksX2_sqr_1 8 rfl rfl)
theorem dX2_sqr_33 : decode cX2_sqr 33 = .ok (.invokestatic 9, 3) := dk_184 0 9 (dk_at dksX2_sqr_1 9 rfl rfl)
theorem dX2_sqr_36 : decode cX2_sqr 36 = .ok (.ireturn, 1) := dk_172 (dk_at dksX2_sqr_1 12 rfl rfl)
abbrev cX2_inv : ByteArray := prog_3_method_6_code
def yX2_inv : MethodName := ⟨RX2, "inv", "(I)I"⟩
def dkwX2_inv_3 : List UInt8 := [184, 0, 17, 54, 11, 21, 11, 26, 184, 0, 13, 54, 12, 21, 12, 184, 0, 17, 172]
abbrev dktX2_inv_3 : List UInt8 := dkwX2_inv_3 ++ []
def dkwX2_inv_2 : List UInt8 := [26, 184, 0, 13, 54, 8, 21, 8, 184, 0, 17, 54, 9, 21, 9, 26, 184, 0, 13, 54, 10, 21, 10]
abbrev dktX2_inv_2 : List UInt8 := dkwX2_inv_2 ++ dktX2_inv_3
def dkwX2_inv_1 : List UInt8 := [21, 4, 184, 0, 17, 54, 5, 21, 5, 26, 184, 0, 13, 54, 6, 21, 6, 184, 0, 17, 54, 7, 21, 7]
abbrev dktX2_inv_1 : List UInt8 := dkwX2_inv_1 ++ dktX2_inv_2
def dkwX2_inv_0 : List UInt8 := [26, 184, 0, 17, 60, 27, 26, 184, 0, 13, 61, 28, 184, 0, 17, 62, 29, 26, 184, 0, 13, 54, 4]
abbrev dktX2_inv_0 : List UInt8 := dkwX2_inv_0 ++ dktX2_inv_1
theorem dksX2_inv_0 : cX2_inv.data.toList.drop 0 = dktX2_inv_0 := by decide +kernel
theorem dksX2_inv_1 : cX2_inv.data.toList.drop 23 = dktX2_inv_1 := dk_seg dksX2_inv_0 23 rfl rfl
theorem dksX2_inv_2 : cX2_inv.data.toList.drop 47 = dktX2_inv_2 := dk_seg dksX2_inv_1 24 rfl rfl
theorem dksX2_inv_3 : cX2_inv.data.toList.drop 70 = dktX2_inv_3 := dk_seg dksX2_inv_2 23 rfl rfl
theorem dX2_inv_0 : decode cX2_inv 0 = .ok (.iload_n 0, 1) := dk_26 (dk_at dksX2_inv_0 0 rfl rfl)
theorem dX2_inv_1 : decode cX2_inv 1 = .ok (.invokestatic 17, 3) := dk_184 0 17 (dk_at dksX2_inv_0 1 rfl rfl)
theorem dX2_inv_4 : decode cX2_inv 4 = .ok (.istore_n 1, 1) := dk_60 (dk_at dksX2_inv_0 4 rfl rfl)
theorem dX2_inv_5 : decode cX2_inv 5 = .ok (.iload_n 1, 1) := dk_27 (dk_at dksX2_inv_0 5 rfl rfl)
theorem dX2_inv_6 : decode cX2_inv 6 = .ok (.iload_n 0, 1) := dk_26 (dk_at dksX2_inv_0 6 rfl rfl)
theorem dX2_inv_7 : decode cX2_inv 7 = .ok (.invokestatic 13, 3) := dk_184 0 13 (dk_at dksX2_inv_0 7 rfl rfl)
theorem dX2_inv_10 : decode cX2_inv 10 = .ok (.istore_n 2, 1) := dk_61 (dk_at dksX2_inv_0 10 rfl rfl)
theorem dX2_inv_11 : decode cX2_inv 11 = .ok (.iload_n 2, 1) := dk_28 (dk_at dksX2_inv_0 11 rfl rfl)
theorem dX2_inv_12 : decode cX2_inv 12 = .ok (.invokestatic 17, 3) := dk_184 0 17 (dk_at dksX2_inv_0 12 rfl rfl)
theorem dX2_inv_15 : decode cX2_inv 15 = .ok (.istore_n 3, 1) := dk_62 (dk_at dksX2_inv_0 15 rfl rfl)
theorem dX2_inv_16 : decode cX2_inv 16 = .ok (.iload_n 3, 1) := dk_29 (dk_at dksX2_inv_0 16 rfl rfl)
theorem dX2_inv_17 : decode cX2_inv 17 = .ok (.iload_n 0, 1) := dk_26 (dk_at dksX2_inv_0 17 rfl rfl)
theorem dX2_inv_18 : decode cX2_inv 18 = .ok (.invokestatic 13, 3) := dk_184 0 13 (dk_at dksX2_inv_0 18 rfl rfl)
theorem dX2_inv_21 : decode cX2_inv 21 = .ok (.istore 4, 2) := dk_54 4 (dk_at dksX2_inv_0 21 rfl rfl)
theorem dX2_inv_23 : decode cX2_inv 23 = .ok (.iload 4, 2) := dk_21 4 (dk_at dksX2_inv_1 0 rfl rfl)
theorem dX2_inv_25 : decode cX2_inv 25 = .ok (.invokestatic 17, 3) := dk_184 0 17 (dk_at dksX2_inv_1 2 rfl rfl)
theorem dX2_inv_28 : decode cX2_inv 28 = .ok (.istore 5, 2) := dk_54 5 (dk_at dksX2_inv_1 5 rfl rfl)
theorem dX2_inv_30 : decode cX2_inv 30 = .ok (.iload 5, 2) := dk_21 5 (dk_at dksX2_inv_1 7 rfl rfl)
theorem dX2_inv_32 : decode cX2_inv 32 = .ok (.iload_n 0, 1) := dk_26 (dk_at dksX2_inv_1 9 rfl rfl)
theorem dX2_inv_33 : decode cX2_inv 33 = .ok (.invokestatic 13, 3) := dk_184 0 13 (dk_at dksX2_inv_1 10 rfl rfl)
theorem dX2_inv_36 : decode cX2_inv 36 = .ok (.istore 6, 2) := dk_54 6 (dk_at dksX2_inv_1 13 rfl rfl)
theorem dX2_inv_38 : decode cX2_inv 38 = .ok (.iload 6, 2) := dk_21 6 (dk_at dksX2_inv_1 15 rfl rfl)
theorem dX2_inv_40 : decode cX2_inv 40 = .ok (.invokestatic 17, 3) := dk_184 0 17 (dk_at dksX2_inv_1 17 rfl rfl)
theorem dX2_inv_43 : decode cX2_inv 43 = .ok (.istore 7, 2) := dk_54 7 (dk_at dksX2_inv_1 20 rfl rfl)
theorem dX2_inv_45 : decode cX2_inv 45 = .ok (.iload 7, 2) := dk_21 7 (dk_at dksX2_inv_1 22 rfl rfl)
theorem dX2_inv_47 : decode cX2_inv 47 = .ok (.iload_n 0, 1) := dk_26 (dk_at dksX2_inv_2 0 rfl rfl)
theorem dX2_inv_48 : decode cX2_inv 48 = .ok (.invokestatic 13, 3) := dk_184 0 13 (dk_at dksX2_inv_2 1 rfl rfl)
theorem dX2_inv_51 : decode cX2_inv 51 = .ok (.istore 8, 2) := dk_54 8 (dk_at dksX2_inv_2 4 rfl rfl)
theorem dX2_inv_53 : decode cX2_inv 53 = .ok (.iload 8, 2) := dk_21 8 (dk_at dksX2_inv_2 6 rfl rfl)
theorem dX2_inv_55 : decode cX2_inv 55 = .ok (.invokestatic 17, 3) := dk_184 0 17 (dk_at dksX2_inv_2 8 rfl rfl)
theorem dX2_inv_58 : decode cX2_inv 58 = .ok (.istore 9, 2) := dk_54 9 (dk_at dksX2_inv_2 11 rfl rfl)
theorem dX2_inv_60 : decode cX2_inv 60 = .ok (.iload 9, 2) := dk_21 9 (dk_at dksX2_inv_2 13 rfl rfl)
theorem dX2_inv_62 : decode cX2_inv 62 = .ok (.iload_n 0, 1) := dk_26 (dk_at dksX2_inv_2 15 rfl rfl)
theorem dX2_inv_63 : decode cX2_inv 63 = .ok (.invokestatic 13, 3) := dk_184 0 13 (dk_at dksX2_inv_2 16 rfl rfl)
theorem dX2_inv_66 : decode cX2_inv 66 = .ok (.istore 10, 2) := dk_54 10 (dk_at dksX2_inv_2 19 rfl rfl)
theorem dX2_inv_68 : decode cX2_inv 68 = .ok (.iload 10, 2) := dk_21 10 (dk_at dksX2_inv_2 21 rfl rfl)
theorem dX2_inv_70 : decode cX2_inv 70 = .ok (.invokestatic 17, 3) := dk_184 0 17 (dk_at dksX2_inv_3 0 rfl rfl)
theorem dX2_inv_73 : decode cX2_inv 73 = .ok (.istore 11, 2) := dk_54 11 (dk_at dksX2_inv_3 3 rfl rfl)
theorem dX2_inv_75 : decode cX2_inv 75 = .ok (.iload 11, 2) := dk_21 11 (dk_at dksX2_inv_3 5 rfl rfl)
theorem dX2_inv_77 : decode cX2_inv 77 = .ok (.iload_n 0, 1) := dk_26 (dk_at dksX2_inv_3 7 rfl rfl)
theorem dX2_inv_78 : decode cX2_inv 78 = .ok (.invokestatic 13, 3) := dk_184 0 13 (dk_at dksX2_inv_3 8 rfl rfl)
theorem dX2_inv_81 : decode cX2_inv 81 = .ok (.istore 12, 2) := dk_54 12 (dk_at dksX2_inv_3 11 rfl rfl)
theorem dX2_inv_83 : decode cX2_inv 83 = .ok (.iload 12, 2) := dk_21 12 (dk_at dksX2_inv_3 13 rfl rfl)
theorem dX2_inv_85 : decode cX2_inv 85 = .ok (.invokestatic 17, 3) := dk_184 0 17 (dk_at dksX2_inv_3 15 rfl rfl)
theorem dX2_inv_88 : decode cX2_inv 88 = .ok (.ireturn, 1) := dk_172 (dk_at dksX2_inv_3 18 rfl rfl)
abbrev cX2_div : ByteArray := prog_3_method_7_code
def yX2_div : MethodName := ⟨RX2, "div", "(II)I"⟩
def dkwX2_div_0 : List UInt8 := [26, 27, 184, 0, 20, 184, 0, 13, 172]
abbrev dktX2_div_0 : List UInt8 := dkwX2_div_0 ++ []
theorem dksX2_div_0 : cX2_div.data.toList.drop 0 = dktX2_div_0 := by decide +kernel
theorem dX2_div_0 : decode cX2_div 0 = .ok (.iload_n 0, 1) := dk_26 (dk_at dksX2_div_0 0 rfl rfl)
theorem dX2_div_1 : decode cX2_div 1 = .ok (.iload_n 1, 1) := dk_27 (dk_at dksX2_div_0 1 rfl rfl)
theorem dX2_div_2 : decode cX2_div 2 = .ok (.invokestatic 20, 3) := dk_184 0 20 (dk_at dksX2_div_0 2 rfl rfl)
theorem dX2_div_5 : decode cX2_div 5 = .ok (.invokestatic 13, 3) := dk_184 0 13 (dk_at dksX2_div_0 5 rfl rfl)
theorem dX2_div_8 : decode cX2_div 8 = .ok (.ireturn, 1) := dk_172 (dk_at dksX2_div_0 8 rfl rfl)
theorem q2 : (Jvm.Cond.initialized "GF") ∈ lw_all := lw_g (lw_at lw_m0 2 rfl) rfl
theorem q20 : (Jvm.Cond.static ({ cls := "GF", name := "mul", desc := "(II)I" } : Jvm.MethodName)) ∈ lw_all := lw_g (lw_at lw_m0 20 rfl) rfl
theorem q21 : (Jvm.Cond.code ({ cls := "GF", name := "mul", desc := "(II)I" } : Jvm.MethodName) prog_3_method_3_code (5 : Nat) (Option.some Jvm.ClassFile.FieldType.int)) ∈ lw_all := lw_g (lw_at lw_m0 21 rfl) rfl
theorem q22 : (Jvm.Cond.methodLink "GF" (9 : Nat) ({ cls := "GF", name := "reduce", desc := "(I)I" } : Jvm.MethodName)) ∈ lw_all := lw_g (lw_at lw_m0 22 rfl) rfl
theorem q23 : (Jvm.Cond.static ({ cls := "GF", name := "reduce", desc := "(I)I" } : Jvm.MethodName)) ∈ lw_all := lw_g (lw_at lw_m0 23 rfl) rfl
theorem q24 : (Jvm.Cond.code ({ cls := "GF", name := "reduce", desc := "(I)I" } : Jvm.MethodName) prog_3_method_2_code (3 : Nat) (Option.some Jvm.ClassFile.FieldType.int)) ∈ lw_all := lw_g (lw_at lw_m0 24 rfl) rfl
theorem q30 : (Jvm.Cond.static ({ cls := "GF", name := "mul3", desc := "(III)I" } : Jvm.MethodName)) ∈ lw_all := lw_g (lw_at lw_m0 30 rfl) rfl
theorem q31 : (Jvm.Cond.code ({ cls := "GF", name := "mul3", desc := "(III)I" } : Jvm.MethodName) prog_3_method_4_code (3 : Nat) (Option.some Jvm.ClassFile.FieldType.int)) ∈ lw_all := lw_g (lw_at lw_m0 31 rfl) rfl
theorem q32 : (Jvm.Cond.methodLink "GF" (13 : Nat) ({ cls := "GF", name := "mul", desc := "(II)I" } : Jvm.MethodName)) ∈ lw_all := lw_g (lw_at lw_m0 32 rfl) rfl
theorem q38 : (Jvm.Cond.static ({ cls := "GF", name := "sqr", desc := "(I)I" } : Jvm.MethodName)) ∈ lw_all := lw_g (lw_at lw_m0 38 rfl) rfl
theorem q39 : (Jvm.Cond.code ({ cls := "GF", name := "sqr", desc := "(I)I" } : Jvm.MethodName) prog_3_method_5_code (2 : Nat) (Option.some Jvm.ClassFile.FieldType.int)) ∈ lw_all := lw_g (lw_at lw_m0 39 rfl) rfl
theorem q45 : (Jvm.Cond.static ({ cls := "GF", name := "inv", desc := "(I)I" } : Jvm.MethodName)) ∈ lw_all := lw_g (lw_at lw_m0 45 rfl) rfl
theorem q46 : (Jvm.Cond.code ({ cls := "GF", name := "inv", desc := "(I)I" } : Jvm.MethodName) prog_3_method_6_code (13 : Nat) (Option.some Jvm.ClassFile.FieldType.int)) ∈ lw_all := lw_g (lw_at lw_m0 46 rfl) rfl
theorem q47 : (Jvm.Cond.methodLink "GF" (17 : Nat) ({ cls := "GF", name := "sqr", desc := "(I)I" } : Jvm.MethodName)) ∈ lw_all := lw_g (lw_at lw_m0 47 rfl) rfl
theorem q53 : (Jvm.Cond.static ({ cls := "GF", name := "div", desc := "(II)I" } : Jvm.MethodName)) ∈ lw_all := lw_g (lw_at lw_m0 53 rfl) rfl
theorem q54 : (Jvm.Cond.code ({ cls := "GF", name := "div", desc := "(II)I" } : Jvm.MethodName) prog_3_method_7_code (2 : Nat) (Option.some Jvm.ClassFile.FieldType.int)) ∈ lw_all := lw_g (lw_at lw_m0 54 rfl) rfl
theorem q55 : (Jvm.Cond.methodLink "GF" (20 : Nat) ({ cls := "GF", name := "inv", desc := "(I)I" } : Jvm.MethodName)) ∈ lw_all := lw_g (lw_at lw_m0 55 rfl) rfl
/-! ByteField -/
set_option maxRecDepth 100000
def RX1 : String := "ByteField"
def TX1 : u_T := fun k => match k with
  | _ => ("ByteField", "held", "I", false)
def tyX1 : Nat → FieldType := fun k => match k with
  | _ => .int
abbrev wsX10 : List Cond := u_ws RX1 TX1 1
theorem nmX1 : ∀ a, a < 1 → ∀ b, b < 1 → a ≠ b → (TX1 a).2.1 ≠ (TX1 b).2.1 := by decide +kernel
theorem tyX1_ok : ∀ k, k < 1 → parseFieldDescriptor (TX1 k).2.2.1 = some (tyX1 k) := by decide +kernel
abbrev cX1_init : ByteArray := prog_1_method_1_code
def yX1_init : MethodName := ⟨RX1, "<init>", "()V"⟩
def dkwX1_init_0 : List UInt8 := [42, 183, 0, 1, 42, 4, 181, 0, 7, 177]
abbrev dktX1_init_0 : List UInt8 := dkwX1_init_0 ++ []
theorem dksX1_init_0 : cX1_init.data.toList.drop 0 = dktX1_init_0 := by decide +kernel
theorem dX1_init_0 : decode cX1_init 0 = .ok (.aload_n 0, 1) := dk_42 (dk_at dksX1_init_0 0 rfl rfl)
theorem dX1_init_1 : decode cX1_init 1 = .ok (.invokespecial 1, 3) := dk_183 0 1 (dk_at dksX1_init_0 1 rfl rfl)
theorem dX1_init_4 : decode cX1_init 4 = .ok (.aload_n 0, 1) := dk_42 (dk_at dksX1_init_0 4 rfl rfl)
theorem dX1_init_5 : decode cX1_init 5 = .ok (.iconst 1, 1) := dk_4 (dk_at dksX1_init_0 5 rfl rfl)
theorem dX1_init_6 : decode cX1_init 6 = .ok (.putfield 7, 3) := dk_181 0 7 (dk_at dksX1_init_0 6 rfl rfl)
theorem dX1_init_9 : decode cX1_init 9 = .ok (.return_, 1) := dk_177 (dk_at dksX1_init_0 9 rfl rfl)
abbrev cX1_times : ByteArray := prog_1_method_2_code
def yX1_times : MethodName := ⟨RX1, "times", "(II)I"⟩
def dkwX1_times_0 : List UInt8 := [27, 17, 0, 255, 126, 28, 17, 0, 255, 126, 184, 0, 13, 172]
abbrev dktX1_times_0 : List UInt8 := dkwX1_times_0 ++ []
theorem dksX1_times_0 : cX1_times.data.toList.drop 0 = dktX1_times_0 := by decide +kernel
theorem dX1_times_0 : decode cX1_times 0 = .ok (.iload_n 1, 1) := dk_27 (dk_at dksX1_times_0 0 rfl rfl)
theorem dX1_times_1 : decode cX1_times 1 = .ok (.sipush 255, 3) := dk_17 0 255 (dk_at dksX1_times_0 1 rfl rfl)
theorem dX1_times_4 : decode cX1_times 4 = .ok (.iand, 1) := dk_126 (dk_at dksX1_times_0 4 rfl rfl)
theorem dX1_times_5 : decode cX1_times 5 = .ok (.iload_n 2, 1) := dk_28 (dk_at dksX1_times_0 5 rfl rfl)
theorem dX1_times_6 : decode cX1_times 6 = .ok (.sipush 255, 3) := dk_17 0 255 (dk_at dksX1_times_0 6 rfl rfl)
theorem dX1_times_9 : decode cX1_times 9 = .ok (.iand, 1) := dk_126 (dk_at dksX1_times_0 9 rfl rfl)
theorem dX1_times_10 : decode cX1_times 10 = .ok (.invokestatic 13, 3) := dk_184 0 13 (dk_at dksX1_times_0 10 rfl rfl)
theorem dX1_times_13 : decode cX1_times 13 = .ok (.ireturn, 1) := dk_172 (dk_at dksX1_times_0 13 rfl rfl)
abbrev cX1_timesThree : ByteArray := prog_1_method_3_code
def yX1_timesThree : MethodName := ⟨RX1, "timesThree", "(III)I"⟩
def dkwX1_timesThree_0 : List UInt8 := [27, 17, 0, 255, 126, 28, 17, 0, 255, 126, 29, 17, 0, 255, 126, 184, 0, 19, 172]
abbrev dktX1_timesThree_0 : List UInt8 := dkwX1_timesThree_0 ++ []
theorem dksX1_timesThree_0 : cX1_timesThree.data.toList.drop 0 = dktX1_timesThree_0 := by decide +kernel
theorem dX1_timesThree_0 : decode cX1_timesThree 0 = .ok (.iload_n 1, 1) := dk_27 (dk_at dksX1_timesThree_0 0 rfl rfl)
theorem dX1_timesThree_1 : decode cX1_timesThree 1 = .ok (.sipush 255, 3) := dk_17 0 255 (dk_at dksX1_timesThree_0 1 rfl rfl)
theorem dX1_timesThree_4 : decode cX1_timesThree 4 = .ok (.iand, 1) := dk_126 (dk_at dksX1_timesThree_0 4 rfl rfl)
theorem dX1_timesThree_5 : decode cX1_timesThree 5 = .ok (.iload_n 2, 1) := dk_28 (dk_at dksX1_timesThree_0 5 rfl rfl)
theorem dX1_timesThree_6 : decode cX1_timesThree 6 = .ok (.sipush 255, 3) := dk_17 0 255 (dk_at dksX1_timesThree_0 6 rfl rfl)
theorem dX1_timesThree_9 : decode cX1_timesThree 9 = .ok (.iand, 1) := dk_126 (dk_at dksX1_timesThree_0 9 rfl rfl)
theorem dX1_timesThree_10 : decode cX1_timesThree 10 = .ok (.iload_n 3, 1) := dk_29 (dk_at dksX1_timesThree_0 10 rfl rfl)
theorem dX1_timesThree_11 : decode cX1_timesThree 11 = .ok (.sipush 255, 3) := dk_17 0 255 (dk_at dksX1_timesThree_0 11 rfl rfl)
theorem dX1_timesThree_14 : decode cX1_timesThree 14 = .ok (.iand, 1) := dk_126 (dk_at dksX1_timesThree_0 14 rfl rfl)
theorem dX1_timesThree_15 : decode cX1_timesThree 15 = .ok (.invokestatic 19, 3) := dk_184 0 19 (dk_at dksX1_timesThree_0 15 rfl rfl)
theorem dX1_timesThree_18 : decode cX1_timesThree 18 = .ok (.ireturn, 1) := dk_172 (dk_at dksX1_timesThree_0 18 rfl rfl)
abbrev cX1_square : ByteArray := prog_1_method_4_code
def yX1_square : MethodName := ⟨RX1, "square", "(I)I"⟩
def dkwX1_square_0 : List UInt8 := [27, 17, 0, 255, 126, 184, 0, 23, 172]
abbrev dktX1_square_0 : List UInt8 := dkwX1_square_0 ++ []
theorem dksX1_square_0 : cX1_square.data.toList.drop 0 = dktX1_square_0 := by decide +kernel
theorem dX1_square_0 : decode cX1_square 0 = .ok (.iload_n 1, 1) := dk_27 (dk_at dksX1_square_0 0 rfl rfl)
theorem dX1_square_1 : decode cX1_square 1 = .ok (.sipush 255, 3) := dk_17 0 255 (dk_at dksX1_square_0 1 rfl rfl)
theorem dX1_square_4 : decode cX1_square 4 = .ok (.iand, 1) := dk_126 (dk_at dksX1_square_0 4 rfl rfl)
theorem dX1_square_5 : decode cX1_square 5 = .ok (.invokestatic 23, 3) := dk_184 0 23 (dk_at dksX1_square_0 5 rfl rfl)
theorem dX1_square_8 : decode cX1_square 8 = .ok (.ireturn, 1) := dk_172 (dk_at dksX1_square_0 8 rfl rfl)
abbrev cX1_inverse : ByteArray := prog_1_method_5_code
def yX1_inverse : MethodName := ⟨RX1, "inverse", "(I)I"⟩
def dkwX1_inverse_0 : List UInt8 := [27, 17, 0, 255, 126, 154, 0, 7, 2, 167, 0, 11, 27, 17, 0, 255, 126, 184, 0, 27, 172]
abbrev dktX1_inverse_0 : List UInt8 := dkwX1_inverse_0 ++ []
theorem dksX1_inverse_0 : cX1_inverse.data.toList.drop 0 = dktX1_inverse_0 := by decide +kernel
theorem dX1_inverse_0 : decode cX1_inverse 0 = .ok (.iload_n 1, 1) := dk_27 (dk_at dksX1_inverse_0 0 rfl rfl)
theorem dX1_inverse_1 : decode cX1_inverse 1 = .ok (.sipush 255, 3) := dk_17 0 255 (dk_at dksX1_inverse_0 1 rfl rfl)
theorem dX1_inverse_4 : decode cX1_inverse 4 = .ok (.iand, 1) := dk_126 (dk_at dksX1_inverse_0 4 rfl rfl)
theorem dX1_inverse_5 : decode cX1_inverse 5 = .ok (.ifCond .ne 7, 3) := dk_154 0 7 (dk_at dksX1_inverse_0 5 rfl rfl)
theorem dX1_inverse_8 : decode cX1_inverse 8 = .ok (.iconst (-1), 1) := dk_2 (dk_at dksX1_inverse_0 8 rfl rfl)
theorem dX1_inverse_9 : decode cX1_inverse 9 = .ok (.goto 11, 3) := dk_167 0 11 (dk_at dksX1_inverse_0 9 rfl rfl)
theorem dX1_inverse_12 : decode cX1_inverse 12 = .ok (.iload_n 1, 1) := dk_27 (dk_at dksX1_inverse_0 12 rfl rfl)
theorem dX1_inverse_13 : decode cX1_inverse 13 = .ok (.sipush 255, 3) := dk_17 0 255 (dk_at dksX1_inverse_0 13 rfl rfl)
theorem dX1_inverse_16 : decode cX1_inverse 16 = .ok (.iand, 1) := dk_126 (dk_at dksX1_inverse_0 16 rfl rfl)
theorem dX1_inverse_17 : decode cX1_inverse 17 = .ok (.invokestatic 27, 3) := dk_184 0 27 (dk_at dksX1_inverse_0 17 rfl rfl)
theorem dX1_inverse_20 : decode cX1_inverse 20 = .ok (.ireturn, 1) := dk_172 (dk_at dksX1_inverse_0 20 rfl rfl)
abbrev cX1_divide : ByteArray := prog_1_method_6_code
def yX1_divide : MethodName := ⟨RX1, "divide", "(II)I"⟩
def dkwX1_divide_1 : List UInt8 := [184, 0, 30, 172]
abbrev dktX1_divide_1 : List UInt8 := dkwX1_divide_1 ++ []
def dkwX1_divide_0 : List UInt8 := [28, 17, 0, 255, 126, 154, 0, 7, 2, 167, 0, 16, 27, 17, 0, 255, 126, 28, 17, 0, 255, 126]
abbrev dktX1_divide_0 : List UInt8 := dkwX1_divide_0 ++ dktX1_divide_1
theorem dksX1_divide_0 : cX1_divide.data.toList.drop 0 = dktX1_divide_0 := by decide +kernel
theorem dksX1_divide_1 : cX1_divide.data.toList.drop 22 = dktX1_divide_1 := dk_seg dksX1_divide_0 22 rfl rfl
theorem dX1_divide_0 : decode cX1_divide 0 = .ok (.iload_n 2, 1) := dk_28 (dk_at dksX1_divide_0 0 rfl rfl)
theorem dX1_divide_1 : decode cX1_divide 1 = .ok (.sipush 255, 3) := dk_17 0 255 (dk_at dksX1_divide_0 1 rfl rfl)
theorem dX1_divide_4 : decode cX1_divide 4 = .ok (.iand, 1) := dk_126 (dk_at dksX1_divide_0 4 rfl rfl)
theorem dX1_divide_5 : decode cX1_divide 5 = .ok (.ifCond .ne 7, 3) := dk_154 0 7 (dk_at dksX1_divide_0 5 rfl rfl)
theorem dX1_divide_8 : decode cX1_divide 8 = .ok (.iconst (-1), 1) := dk_2 (dk_at dksX1_divide_0 8 rfl rfl)
theorem dX1_divide_9 : decode cX1_divide 9 = .ok (.goto 16, 3) := dk_167 0 16 (dk_at dksX1_divide_0 9 rfl rfl)
theorem dX1_divide_12 : decode cX1_divide 12 = .ok (.iload_n 1, 1) := dk_27 (dk_at dksX1_divide_0 12 rfl rfl)
theorem dX1_divide_13 : decode cX1_divide 13 = .ok (.sipush 255, 3) := dk_17 0 255 (dk_at dksX1_divide_0 13 rfl rfl)
theorem dX1_divide_16 : decode cX1_divide 16 = .ok (.iand, 1) := dk_126 (dk_at dksX1_divide_0 16 rfl rfl)
theorem dX1_divide_17 : decode cX1_divide 17 = .ok (.iload_n 2, 1) := dk_28 (dk_at dksX1_divide_0 17 rfl rfl)
theorem dX1_divide_18 : decode cX1_divide 18 = .ok (.sipush 255, 3) := dk_17 0 255 (dk_at dksX1_divide_0 18 rfl rfl)
theorem dX1_divide_21 : decode cX1_divide 21 = .ok (.iand, 1) := dk_126 (dk_at dksX1_divide_0 21 rfl rfl)
theorem dX1_divide_22 : decode cX1_divide 22 = .ok (.invokestatic 30, 3) := dk_184 0 30 (dk_at dksX1_divide_1 0 rfl rfl)
theorem dX1_divide_25 : decode cX1_divide 25 = .ok (.ireturn, 1) := dk_172 (dk_at dksX1_divide_1 3 rfl rfl)
abbrev cX1_hold : ByteArray := prog_1_method_7_code
def yX1_hold : MethodName := ⟨RX1, "hold", "(I)I"⟩
def dkwX1_hold_0 : List UInt8 := [42, 27, 17, 0, 255, 126, 181, 0, 7, 42, 180, 0, 7, 172]
abbrev dktX1_hold_0 : List UInt8 := dkwX1_hold_0 ++ []
theorem dksX1_hold_0 : cX1_hold.data.toList.drop 0 = dktX1_hold_0 := by decide +kernel
theorem dX1_hold_0 : decode cX1_hold 0 = .ok (.aload_n 0, 1) := dk_42 (dk_at dksX1_hold_0 0 rfl rfl)
theorem dX1_hold_1 : decode cX1_hold 1 = .ok (.iload_n 1, 1) := dk_27 (dk_at dksX1_hold_0 1 rfl rfl)
theorem dX1_hold_2 : decode cX1_hold 2 = .ok (.sipush 255, 3) := dk_17 0 255 (dk_at dksX1_hold_0 2 rfl rfl)
theorem dX1_hold_5 : decode cX1_hold 5 = .ok (.iand, 1) := dk_126 (dk_at dksX1_hold_0 5 rfl rfl)
theorem dX1_hold_6 : decode cX1_hold 6 = .ok (.putfield 7, 3) := dk_181 0 7 (dk_at dksX1_hold_0 6 rfl rfl)
theorem dX1_hold_9 : decode cX1_hold 9 = .ok (.aload_n 0, 1) := dk_42 (dk_at dksX1_hold_0 9 rfl rfl)
theorem dX1_hold_10 : decode cX1_hold 10 = .ok (.getfield 7, 3) := dk_180 0 7 (dk_at dksX1_hold_0 10 rfl rfl)
theorem dX1_hold_13 : decode cX1_hold 13 = .ok (.ireturn, 1) := dk_172 (dk_at dksX1_hold_0 13 rfl rfl)
abbrev cX1_fold : ByteArray := prog_1_method_8_code
def yX1_fold : MethodName := ⟨RX1, "fold", "(II)I"⟩
def dkwX1_fold_1 : List UInt8 := [180, 0, 7, 172]
abbrev dktX1_fold_1 : List UInt8 := dkwX1_fold_1 ++ []
def dkwX1_fold_0 : List UInt8 := [42, 42, 180, 0, 7, 27, 17, 0, 255, 126, 184, 0, 13, 28, 17, 0, 255, 126, 130, 181, 0, 7, 42]
abbrev dktX1_fold_0 : List UInt8 := dkwX1_fold_0 ++ dktX1_fold_1
theorem dksX1_fold_0 : cX1_fold.data.toList.drop 0 = dktX1_fold_0 := by decide +kernel
theorem dksX1_fold_1 : cX1_fold.data.toList.drop 23 = dktX1_fold_1 := dk_seg dksX1_fold_0 23 rfl rfl
theorem dX1_fold_0 : decode cX1_fold 0 = .ok (.aload_n 0, 1) := dk_42 (dk_at dksX1_fold_0 0 rfl rfl)
theorem dX1_fold_1 : decode cX1_fold 1 = .ok (.aload_n 0, 1) := dk_42 (dk_at dksX1_fold_0 1 rfl rfl)
theorem dX1_fold_2 : decode cX1_fold 2 = .ok (.getfield 7, 3) := dk_180 0 7 (dk_at dksX1_fold_0 2 rfl rfl)
theorem dX1_fold_5 : decode cX1_fold 5 = .ok (.iload_n 1, 1) := dk_27 (dk_at dksX1_fold_0 5 rfl rfl)
theorem dX1_fold_6 : decode cX1_fold 6 = .ok (.sipush 255, 3) := dk_17 0 255 (dk_at dksX1_fold_0 6 rfl rfl)
theorem dX1_fold_9 : decode cX1_fold 9 = .ok (.iand, 1) := dk_126 (dk_at dksX1_fold_0 9 rfl rfl)
theorem dX1_fold_10 : decode cX1_fold 10 = .ok (.invokestatic 13, 3) := dk_184 0 13 (dk_at dksX1_fold_0 10 rfl rfl)
theorem dX1_fold_13 : decode cX1_fold 13 = .ok (.iload_n 2, 1) := dk_28 (dk_at dksX1_fold_0 13 rfl rfl)
theorem dX1_fold_14 : decode cX1_fold 14 = .ok (.sipush 255, 3) := dk_17 0 255 (dk_at dksX1_fold_0 14 rfl rfl)
theorem dX1_fold_17 : decode cX1_fold 17 = .ok (.iand, 1) := dk_126 (dk_at dksX1_fold_0 17 rfl rfl)
theorem dX1_fold_18 : decode cX1_fold 18 = .ok (.ixor, 1) := dk_130 (dk_at dksX1_fold_0 18 rfl rfl)
theorem dX1_fold_19 : decode cX1_fold 19 = .ok (.putfield 7, 3) := dk_181 0 7 (dk_at dksX1_fold_0 19 rfl rfl)
theorem dX1_fold_22 : decode cX1_fold 22 = .ok (.aload_n 0, 1) := dk_42 (dk_at dksX1_fold_0 22 rfl rfl)
theorem dX1_fold_23 : decode cX1_fold 23 = .ok (.getfield 7, 3) := dk_180 0 7 (dk_at dksX1_fold_1 0 rfl rfl)
theorem dX1_fold_26 : decode cX1_fold 26 = .ok (.ireturn, 1) := dk_172 (dk_at dksX1_fold_1 3 rfl rfl)
abbrev cX1_power : ByteArray := prog_1_method_9_code
def yX1_power : MethodName := ⟨RX1, "power", "(I)I"⟩
def dkwX1_power_2 : List UInt8 := [172]
abbrev dktX1_power_2 : List UInt8 := dkwX1_power_2 ++ []
def dkwX1_power_1 : List UInt8 := [160, 0, 9, 28, 29, 184, 0, 13, 61, 29, 184, 0, 23, 62, 21, 4, 4, 122, 54, 4, 167, 255, 226, 28]
abbrev dktX1_power_1 : List UInt8 := dkwX1_power_1 ++ dktX1_power_2
def dkwX1_power_0 : List UInt8 := [4, 61, 42, 180, 0, 7, 62, 27, 17, 0, 255, 126, 54, 4, 21, 4, 158, 0, 31, 21, 4, 4, 126, 4]
abbrev dktX1_power_0 : List UInt8 := dkwX1_power_0 ++ dktX1_power_1
theorem dksX1_power_0 : cX1_power.data.toList.drop 0 = dktX1_power_0 := by decide +kernel
theorem dksX1_power_1 : cX1_power.data.toList.drop 24 = dktX1_power_1 := dk_seg dksX1_power_0 24 rfl rfl
theorem dksX1_power_2 : cX1_power.data.toList.drop 48 = dktX1_power_2 := dk_seg dksX1_power_1 24 rfl rfl
theorem dX1_power_0 : decode cX1_power 0 = .ok (.iconst 1, 1) := dk_4 (dk_at dksX1_power_0 0 rfl rfl)
theorem dX1_power_1 : decode cX1_power 1 = .ok (.istore_n 2, 1) := dk_61 (dk_at dksX1_power_0 1 rfl rfl)
theorem dX1_power_2 : decode cX1_power 2 = .ok (.aload_n 0, 1) := dk_42 (dk_at dksX1_power_0 2 rfl rfl)
theorem dX1_power_3 : decode cX1_power 3 = .ok (.getfield 7, 3) := dk_180 0 7 (dk_at dksX1_power_0 3 rfl rfl)
theorem dX1_power_6 : decode cX1_power 6 = .ok (.istore_n 3, 1) := dk_62 (dk_at dksX1_power_0 6 rfl rfl)
theorem dX1_power_7 : decode cX1_power 7 = .ok (.iload_n 1, 1) := dk_27 (dk_at dksX1_power_0 7 rfl rfl)
theorem dX1_power_8 : decode cX1_power 8 = .ok (.sipush 255, 3) := dk_17 0 255 (dk_at dksX1_power_0 8 rfl rfl)
theorem dX1_power_11 : decode cX1_power 11 = .ok (.iand, 1) := dk_126 (dk_at dksX1_power_0 11 rfl rfl)
theorem dX1_power_12 : decode cX1_power 12 = .ok (.istore 4, 2) := dk_54 4 (dk_at dksX1_power_0 12 rfl rfl)
theorem dX1_power_14 : decode cX1_power 14 = .ok (.iload 4, 2) := dk_21 4 (dk_at dksX1_power_0 14 rfl rfl)
theorem dX1_power_16 : decode cX1_power 16 = .ok (.ifCond .le 31, 3) := dk_158 0 31 (dk_at dksX1_power_0 16 rfl rfl)
theorem dX1_power_19 : decode cX1_power 19 = .ok (.iload 4, 2) := dk_21 4 (dk_at dksX1_power_0 19 rfl rfl)
theorem dX1_power_21 : decode cX1_power 21 = .ok (.iconst 1, 1) := dk_4 (dk_at dksX1_power_0 21 rfl rfl)
theorem dX1_power_22 : decode cX1_power 22 = .ok (.iand, 1) := dk_126 (dk_at dksX1_power_0 22 rfl rfl)
theorem dX1_power_23 : decode cX1_power 23 = .ok (.iconst 1, 1) := dk_4 (dk_at dksX1_power_0 23 rfl rfl)
theorem dX1_power_24 : decode cX1_power 24 = .ok (.if_icmp .ne 9, 3) := dk_160 0 9 (dk_at dksX1_power_1 0 rfl rfl)
theorem dX1_power_27 : decode cX1_power 27 = .ok (.iload_n 2, 1) := dk_28 (dk_at dksX1_power_1 3 rfl rfl)
theorem dX1_power_28 : decode cX1_power 28 = .ok (.iload_n 3, 1) := dk_29 (dk_at dksX1_power_1 4 rfl rfl)
theorem dX1_power_29 : decode cX1_power 29 = .ok (.invokestatic 13, 3) := dk_184 0 13 (dk_at dksX1_power_1 5 rfl rfl)
theorem dX1_power_32 : decode cX1_power 32 = .ok (.istore_n 2, 1) := dk_61 (dk_at dksX1_power_1 8 rfl rfl)
theorem dX1_power_33 : decode cX1_power 33 = .ok (.iload_n 3, 1) := dk_29 (dk_at dksX1_power_1 9 rfl rfl)
theorem dX1_power_34 : decode cX1_power 34 = .ok (.invokestatic 23, 3) := dk_184 0 23 (dk_at dksX1_power_1 10 rfl rfl)
theorem dX1_power_37 : decode cX1_power 37 = .ok (.istore_n 3, 1) := dk_62 (dk_at dksX1_power_1 13 rfl rfl)
theorem dX1_power_38 : decode cX1_power 38 = .ok (.iload 4, 2) := dk_21 4 (dk_at dksX1_power_1 14 rfl rfl)
theorem dX1_power_40 : decode cX1_power 40 = .ok (.iconst 1, 1) := dk_4 (dk_at dksX1_power_1 16 rfl rfl)
theorem dX1_power_41 : decode cX1_power 41 = .ok (.ishr, 1) := dk_122 (dk_at dksX1_power_1 17 rfl rfl)
theorem dX1_power_42 : decode cX1_power 42 = .ok (.istore 4, 2) := dk_54 4 (dk_at dksX1_power_1 18 rfl rfl)
theorem dX1_power_44 : decode cX1_power 44 = .ok (.goto (-30), 3) := dk_167 255 226 (dk_at dksX1_power_1 20 rfl rfl)
theorem dX1_power_47 : decode cX1_power 47 = .ok (.iload_n 2, 1) := dk_28 (dk_at dksX1_power_1 23 rfl rfl)
theorem dX1_power_48 : decode cX1_power 48 = .ok (.ireturn, 1) := dk_172 (dk_at dksX1_power_2 0 rfl rfl)
theorem q1 : (Jvm.Cond.initialized "ByteField") ∈ lw_all := lw_g (lw_at lw_m0 1 rfl) rfl
theorem q4 : (Jvm.Cond.instantiable "ByteField" (1 : Nat)) ∈ lw_all := lw_g (lw_at lw_m0 4 rfl) rfl
theorem q6 : (Jvm.Cond.instanceMethod ({ cls := "ByteField", name := "<init>", desc := "()V" } : Jvm.MethodName)) ∈ lw_all := lw_g (lw_at lw_m0 6 rfl) rfl
theorem q7 : (Jvm.Cond.code ({ cls := "ByteField", name := "<init>", desc := "()V" } : Jvm.MethodName) prog_1_method_1_code (1 : Nat) (Option.none : Option Jvm.ClassFile.FieldType)) ∈ lw_all := lw_g (lw_at lw_m0 7 rfl) rfl
theorem q8 : (Jvm.Cond.methodLink "ByteField" (1 : Nat) ({ cls := "java/lang/Object", name := "<init>", desc := "()V" } : Jvm.MethodName)) ∈ lw_all := lw_g (lw_at lw_m0 8 rfl) rfl
theorem q11 : (Jvm.Cond.fieldLink "ByteField" (7 : Nat) "ByteField" "held" "I") ∈ lw_all := lw_g (lw_at lw_m0 11 rfl) rfl
theorem q12 : (Jvm.Cond.lays "ByteField" "ByteField" "held" "I") ∈ lw_all := lw_g (lw_at lw_m0 12 rfl) rfl
theorem q13 : (Jvm.Cond.soleField "ByteField" "held") ∈ lw_all := lw_g (lw_at lw_m0 13 rfl) rfl
theorem q14 : (Jvm.Cond.superclass "ByteField" "java/lang/Object") ∈ lw_all := lw_g (lw_at lw_m0 14 rfl) rfl
theorem q16 : (Jvm.Cond.instanceMethod ({ cls := "ByteField", name := "times", desc := "(II)I" } : Jvm.MethodName)) ∈ lw_all := lw_g (lw_at lw_m0 16 rfl) rfl
theorem q17 : (Jvm.Cond.selects "ByteField" ({ cls := "ByteField", name := "times", desc := "(II)I" } : Jvm.MethodName) ({ cls := "ByteField", name := "times", desc := "(II)I" } : Jvm.MethodName)) ∈ lw_all := lw_g (lw_at lw_m0 17 rfl) rfl
theorem q18 : (Jvm.Cond.code ({ cls := "ByteField", name := "times", desc := "(II)I" } : Jvm.MethodName) prog_1_method_2_code (3 : Nat) (Option.some Jvm.ClassFile.FieldType.int)) ∈ lw_all := lw_g (lw_at lw_m0 18 rfl) rfl
theorem q19 : (Jvm.Cond.methodLink "ByteField" (13 : Nat) ({ cls := "GF", name := "mul", desc := "(II)I" } : Jvm.MethodName)) ∈ lw_all := lw_g (lw_at lw_m0 19 rfl) rfl
theorem q26 : (Jvm.Cond.instanceMethod ({ cls := "ByteField", name := "timesThree", desc := "(III)I" } : Jvm.MethodName)) ∈ lw_all := lw_g (lw_at lw_m0 26 rfl) rfl
theorem q27 : (Jvm.Cond.selects "ByteField" ({ cls := "ByteField", name := "timesThree", desc := "(III)I" } : Jvm.MethodName) ({ cls := "ByteField", name := "timesThree", desc := "(III)I" } : Jvm.MethodName)) ∈ lw_all := lw_g (lw_at lw_m0 27 rfl) rfl
theorem q28 : (Jvm.Cond.code ({ cls := "ByteField", name := "timesThree", desc := "(III)I" } : Jvm.MethodName) prog_1_method_3_code (4 : Nat) (Option.some Jvm.ClassFile.FieldType.int)) ∈ lw_all := lw_g (lw_at lw_m0 28 rfl) rfl
theorem q29 : (Jvm.Cond.methodLink "ByteField" (19 : Nat) ({ cls := "GF", name := "mul3", desc := "(III)I" } : Jvm.MethodName)) ∈ lw_all := lw_g (lw_at lw_m0 29 rfl) rfl
theorem q34 : (Jvm.Cond.instanceMethod ({ cls := "ByteField", name := "square", desc := "(I)I" } : Jvm.MethodName)) ∈ lw_all := lw_g (lw_at lw_m0 34 rfl) rfl
theorem q35 : (Jvm.Cond.selects "ByteField" ({ cls := "ByteField", name := "square", desc := "(I)I" } : Jvm.MethodName) ({ cls := "ByteField", name := "square", desc := "(I)I" } : Jvm.MethodName)) ∈ lw_all := lw_g (lw_at lw_m0 35 rfl) rfl
theorem q36 : (Jvm.Cond.code ({ cls := "ByteField", name := "square", desc := "(I)I" } : Jvm.MethodName) prog_1_method_4_code (2 : Nat) (Option.some Jvm.ClassFile.FieldType.int)) ∈ lw_all := lw_g (lw_at lw_m0 36 rfl) rfl
theorem q37 : (Jvm.Cond.methodLink "ByteField" (23 : Nat) ({ cls := "GF", name := "sqr", desc := "(I)I" } : Jvm.MethodName)) ∈ lw_all := lw_g (lw_at lw_m0 37 rfl) rfl
theorem q41 : (Jvm.Cond.instanceMethod ({ cls := "ByteField", name := "inverse", desc := "(I)I" } : Jvm.MethodName)) ∈ lw_all := lw_g (lw_at lw_m0 41 rfl) rfl
theorem q42 : (Jvm.Cond.selects "ByteField" ({ cls := "ByteField", name := "inverse", desc := "(I)I" } : Jvm.MethodName) ({ cls := "ByteField", name := "inverse", desc := "(I)I" } : Jvm.MethodName)) ∈ lw_all := lw_g (lw_at lw_m0 42 rfl) rfl
theorem q43 : (Jvm.Cond.code ({ cls := "ByteField", name := "inverse", desc := "(I)I" } : Jvm.MethodName) prog_1_method_5_code (2 : Nat) (Option.some Jvm.ClassFile.FieldType.int)) ∈ lw_all := lw_g (lw_at lw_m0 43 rfl) rfl
theorem q44 : (Jvm.Cond.methodLink "ByteField" (27 : Nat) ({ cls := "GF", name := "inv", desc := "(I)I" } : Jvm.MethodName)) ∈ lw_all := lw_g (lw_at lw_m0 44 rfl) rfl
theorem q49 : (Jvm.Cond.instanceMethod ({ cls := "ByteField", name := "divide", desc := "(II)I" } : Jvm.MethodName)) ∈ lw_all := lw_g (lw_at lw_m0 49 rfl) rfl
theorem q50 : (Jvm.Cond.selects "ByteField" ({ cls := "ByteField", name := "divide", desc := "(II)I" } : Jvm.MethodName) ({ cls := "ByteField", name := "divide", desc := "(II)I" } : Jvm.MethodName)) ∈ lw_all := lw_g (lw_at lw_m0 50 rfl) rfl
theorem q51 : (Jvm.Cond.code ({ cls := "ByteField", name := "divide", desc := "(II)I" } : Jvm.MethodName) prog_1_method_6_code (3 : Nat) (Option.some Jvm.ClassFile.FieldType.int)) ∈ lw_all := lw_g (lw_at lw_m0 51 rfl) rfl
theorem q52 : (Jvm.Cond.methodLink "ByteField" (30 : Nat) ({ cls := "GF", name := "div", desc := "(II)I" } : Jvm.MethodName)) ∈ lw_all := lw_g (lw_at lw_m0 52 rfl) rfl
theorem q57 : (Jvm.Cond.instanceMethod ({ cls := "ByteField", name := "hold", desc := "(I)I" } : Jvm.MethodName)) ∈ lw_all := lw_g (lw_at lw_m0 57 rfl) rfl
theorem q58 : (Jvm.Cond.selects "ByteField" ({ cls := "ByteField", name := "hold", desc := "(I)I" } : Jvm.MethodName) ({ cls := "ByteField", name := "hold", desc := "(I)I" } : Jvm.MethodName)) ∈ lw_all := lw_g (lw_at lw_m0 58 rfl) rfl
theorem q59 : (Jvm.Cond.code ({ cls := "ByteField", name := "hold", desc := "(I)I" } : Jvm.MethodName) prog_1_method_7_code (2 : Nat) (Option.some Jvm.ClassFile.FieldType.int)) ∈ lw_all := lw_g (lw_at lw_m0 59 rfl) rfl
theorem q61 : (Jvm.Cond.instanceMethod ({ cls := "ByteField", name := "fold", desc := "(II)I" } : Jvm.MethodName)) ∈ lw_all := lw_g (lw_at lw_m0 61 rfl) rfl
theorem q62 : (Jvm.Cond.selects "ByteField" ({ cls := "ByteField", name := "fold", desc := "(II)I" } : Jvm.MethodName) ({ cls := "ByteField", name := "fold", desc := "(II)I" } : Jvm.MethodName)) ∈ lw_all := lw_g (lw_at lw_m0 62 rfl) rfl
theorem q63 : (Jvm.Cond.code ({ cls := "ByteField", name := "fold", desc := "(II)I" } : Jvm.MethodName) prog_1_method_8_code (3 : Nat) (Option.some Jvm.ClassFile.FieldType.int)) ∈ lw_all := lw_g (lw_at lw_m0 63 rfl) rfl
theorem q65 : (Jvm.Cond.instanceMethod ({ cls := "ByteField", name := "power", desc := "(I)I" } : Jvm.MethodName)) ∈ lw_all := lw_g (lw_at lw_m0 65 rfl) rfl
theorem q66 : (Jvm.Cond.selects "ByteField" ({ cls := "ByteField", name := "power", desc := "(I)I" } : Jvm.MethodName) ({ cls := "ByteField", name := "power", desc := "(I)I" } : Jvm.MethodName)) ∈ lw_all := lw_g (lw_at lw_m0 66 rfl) rfl
theorem q67 : (Jvm.Cond.code ({ cls := "ByteField", name := "power", desc := "(I)I" } : Jvm.MethodName) prog_1_method_9_code (5 : Nat) (Option.some Jvm.ClassFile.FieldType.int)) ∈ lw_all := lw_g (lw_at lw_m0 67 rfl) rfl
theorem in_X1 : ∀ w ∈ wsX10, w ∈ lw_all := lw_in wsX10 [12] (by decide +kernel) (by decide +kernel)
theorem q83 : (Jvm.Cond.arrayClass Jvm.ClassFile.FieldType.boolean) ∈ lw_all := lw_g (lw_at lw_m0 83 rfl) rfl
set_option maxRecDepth 100000
theorem q87 : (Jvm.Cond.arrayClass Jvm.ClassFile.FieldType.int) ∈ lw_all := lw_g (lw_at lw_m0 87 rfl) rfl
/-! ByteFieldLaw -/
set_option maxRecDepth 100000
def RX0 : String := "ByteFieldLaw"
abbrev cX0_cell : ByteArray := method_2_code
def yX0_cell : MethodName := ⟨RX0, "cell", "([II)I"⟩
def dkwX0_cell_0 : List UInt8 := [27, 42, 190, 162, 0, 9, 42, 27, 46, 167, 0, 4, 3, 172]
abbrev dktX0_cell_0 : List UInt8 := dkwX0_cell_0 ++ []
theorem dksX0_cell_0 : cX0_cell.data.toList.drop 0 = dktX0_cell_0 := by decide +kernel
theorem dX0_cell_0 : decode cX0_cell 0 = .ok (.iload_n 1, 1) := dk_27 (dk_at dksX0_cell_0 0 rfl rfl)
theorem dX0_cell_1 : decode cX0_cell 1 = .ok (.aload_n 0, 1) := dk_42 (dk_at dksX0_cell_0 1 rfl rfl)
theorem dX0_cell_2 : decode cX0_cell 2 = .ok (.arraylength, 1) := dk_190 (dk_at dksX0_cell_0 2 rfl rfl)
theorem dX0_cell_3 : decode cX0_cell 3 = .ok (.if_icmp .ge 9, 3) := dk_162 0 9 (dk_at dksX0_cell_0 3 rfl rfl)
theorem dX0_cell_6 : decode cX0_cell 6 = .ok (.aload_n 0, 1) := dk_42 (dk_at dksX0_cell_0 6 rfl rfl)
theorem dX0_cell_7 : decode cX0_cell 7 = .ok (.iload_n 1, 1) := dk_27 (dk_at dksX0_cell_0 7 rfl rfl)
theorem dX0_cell_8 : decode cX0_cell 8 = .ok (.iaload, 1) := dk_46 (dk_at dksX0_cell_0 8 rfl rfl)
theorem dX0_cell_9 : decode cX0_cell 9 = .ok (.goto 4, 3) := dk_167 0 4 (dk_at dksX0_cell_0 9 rfl rfl)
theorem dX0_cell_12 : decode cX0_cell 12 = .ok (.iconst 0, 1) := dk_3 (dk_at dksX0_cell_0 12 rfl rfl)
theorem dX0_cell_13 : decode cX0_cell 13 = .ok (.ireturn, 1) := dk_172 (dk_at dksX0_cell_0 13 rfl rfl)
abbrev cX0_product : ByteArray := method_3_code
def yX0_product : MethodName := ⟨RX0, "product", "(II)I"⟩
def dkwX0_product_2 : List UInt8 := [167, 255, 215, 28, 172]
abbrev dktX0_product_2 : List UInt8 := dkwX0_product_2 ++ []
def dkwX0_product_1 : List UInt8 := [28, 29, 130, 61, 29, 4, 120, 62, 29, 17, 0, 255, 164, 0, 9, 29, 17, 1, 29, 130, 62, 132, 4, 1]
abbrev dktX0_product_1 : List UInt8 := dkwX0_product_1 ++ dktX0_product_2
def dkwX0_product_0 : List UInt8 := [3, 61, 26, 62, 3, 54, 4, 21, 4, 16, 8, 162, 0, 40, 27, 21, 4, 122, 4, 126, 4, 160, 0, 7]
abbrev dktX0_product_0 : List UInt8 := dkwX0_product_0 ++ dktX0_product_1
theorem dksX0_product_0 : cX0_product.data.toList.drop 0 = dktX0_product_0 := by decide +kernel
theorem dksX0_product_1 : cX0_product.data.toList.drop 24 = dktX0_product_1 := dk_seg dksX0_product_0 24 rfl rfl
theorem dksX0_product_2 : cX0_product.data.toList.drop 48 = dktX0_product_2 := dk_seg dksX0_product_1 24 rfl rfl
theorem dX0_product_0 : decode cX0_product 0 = .ok (.iconst 0, 1) := dk_3 (dk_at dksX0_product_0 0 rfl rfl)
theorem dX0_product_1 : decode cX0_product 1 = .ok (.istore_n 2, 1) := dk_61 (dk_at dksX0_product_0 1 rfl rfl)
theorem dX0_product_2 : decode cX0_product 2 = .ok (.iload_n 0, 1) := dk_26 (dk_at dksX0_product_0 2 rfl rfl)
theorem dX0_product_3 : decode cX0_product 3 = .ok (.istore_n 3, 1) := dk_62 (dk_at dksX0_product_0 3 rfl rfl)
theorem dX0_product_4 : decode cX0_product 4 = .ok (.iconst 0, 1) := dk_3 (dk_at dksX0_product_0 4 rfl rfl)
theorem dX0_product_5 : decode cX0_product 5 = .ok (.istore 4, 2) := dk_54 4 (dk_at dksX0_product_0 5 rfl rfl)
theorem dX0_product_7 : decode cX0_product 7 = .ok (.iload 4, 2) := dk_21 4 (dk_at dksX0_product_0 7 rfl rfl)
theorem dX0_product_9 : decode cX0_product 9 = .ok (.bipush 8, 2) := dk_16 8 (dk_at dksX0_product_0 9 rfl rfl)
theorem dX0_product_11 : decode cX0_product 11 = .ok (.if_icmp .ge 40, 3) := dk_162 0 40 (dk_at dksX0_product_0 11 rfl rfl)
theorem dX0_product_14 : decode cX0_product 14 = .ok (.iload_n 1, 1) := dk_27 (dk_at dksX0_product_0 14 rfl rfl)
theorem dX0_product_15 : decode cX0_product 15 = .ok (.iload 4, 2) := dk_21 4 (dk_at dksX0_product_0 15 rfl rfl)
theorem dX0_product_17 : decode cX0_product 17 = .ok (.ishr, 1) := dk_122 (dk_at dksX0_product_0 17 rfl rfl)
theorem dX0_product_18 : decode cX0_product 18 = .ok (.iconst 1, 1) := dk_4 (dk_at dksX0_product_0 18 rfl rfl)
theorem dX0_product_19 : decode cX0_product 19 = .ok (.iand, 1) := dk_126 (dk_at dksX0_product_0 19 rfl rfl)
theorem dX0_product_20 : decode cX0_product 20 = .ok (.iconst 1, 1) := dk_4 (dk_at dksX0_product_0 20 rfl rfl)
theorem dX0_product_21 : decode cX0_product 21 = .ok (.if_icmp .ne 7, 3) := dk_160 0 7 (dk_at dksX0_product_0 21 rfl rfl)
theorem dX0_product_24 : decode cX0_product 24 = .ok (.iload_n 2, 1) := dk_28 (dk_at dksX0_product_1 0 rfl rfl)
theorem dX0_product_25 : decode cX0_product 25 = .ok (.iload_n 3, 1) := dk_29 (dk_at dksX0_product_1 1 rfl rfl)
theorem dX0_product_26 : decode cX0_product 26 = .ok (.ixor, 1) := dk_130 (dk_at dksX0_product_1 2 rfl rfl)
theorem dX0_product_27 : decode cX0_product 27 = .ok (.istore_n 2, 1) := dk_61 (dk_at dksX0_product_1 3 rfl rfl)
theorem dX0_product_28 : decode cX0_product 28 = .ok (.iload_n 3, 1) := dk_29 (dk_at dksX0_product_1 4 rfl rfl)
theorem dX0_product_29 : decode cX0_product 29 = .ok (.iconst 1, 1) := dk_4 (dk_at dksX0_product_1 5 rfl rfl)
theorem dX0_product_30 : decode cX0_product 30 = .ok (.ishl, 1) := dk_120 (dk_at dksX0_product_1 6 rfl rfl)
theorem dX0_product_31 : decode cX0_product 31 = .ok (.istore_n 3, 1) := dk_62 (dk_at dksX0_product_1 7 rfl rfl)
theorem dX0_product_32 : decode cX0_product 32 = .ok (.iload_n 3, 1) := dk_29 (dk_at dksX0_product_1 8 rfl rfl)
theorem dX0_product_33 : decode cX0_product 33 = .ok (.sipush 255, 3) := dk_17 0 255 (dk_at dksX0_product_1 9 rfl rfl)
theorem dX0_product_36 : decode cX0_product 36 = .ok (.if_icmp .le 9, 3) := dk_164 0 9 (dk_at dksX0_product_1 12 rfl rfl)
theorem dX0_product_39 : decode cX0_product 39 = .ok (.iload_n 3, 1) := dk_29 (dk_at dksX0_product_1 15 rfl rfl)
theorem dX0_product_40 : decode cX0_product 40 = .ok (.sipush 285, 3) := dk_17 1 29 (dk_at dksX0_product_1 16 rfl rfl)
theorem dX0_product_43 : decode cX0_product 43 = .ok (.ixor, 1) := dk_130 (dk_at dksX0_product_1 19 rfl rfl)
theorem dX0_product_44 : decode cX0_product 44 = .ok (.istore_n 3, 1) := dk_62 (dk_at dksX0_product_1 20 rfl rfl)
theorem dX0_product_45 : decode cX0_product 45 = .ok (.iinc 4 1, 3) := dk_132 4 1 (dk_at dksX0_product_1 21 rfl rfl)
theorem dX0_product_48 : decode cX0_product 48 = .ok (.goto (-41), 3) := dk_167 255 215 (dk_at dksX0_product_2 0 rfl rfl)
theorem dX0_product_51 : decode cX0_product 51 = .ok (.iload_n 2, 1) := dk_28 (dk_at dksX0_product_2 3 rfl rfl)
theorem dX0_product_52 : decode cX0_product 52 = .ok (.ireturn, 1) := dk_172 (dk_at dksX0_product_2 4 rfl rfl)
abbrev cX0_inverse : ByteArray := method_4_code
def yX0_inverse : MethodName := ⟨RX0, "inverse", "(I)I"⟩
def dkwX0_inverse_1 : List UInt8 := [167, 255, 235, 2, 172]
abbrev dktX0_inverse_1 : List UInt8 := dkwX0_inverse_1 ++ []
def dkwX0_inverse_0 : List UInt8 := [4, 60, 27, 17, 1, 0, 162, 0, 20, 26, 27, 184, 0, 7, 4, 160, 0, 5, 27, 172, 132, 1, 1]
abbrev dktX0_inverse_0 : List UInt8 := dkwX0_inverse_0 ++ dktX0_inverse_1
theorem dksX0_inverse_0 : cX0_inverse.data.toList.drop 0 = dktX0_inverse_0 := by decide +kernel
theorem dksX0_inverse_1 : cX0_inverse.data.toList.drop 23 = dktX0_inverse_1 := dk_seg dksX0_inverse_0 23 rfl rfl
theorem dX0_inverse_0 : decode cX0_inverse 0 = .ok (.iconst 1, 1) := dk_4 (dk_at dksX0_inverse_0 0 rfl rfl)
theorem dX0_inverse_1 : decode cX0_inverse 1 = .ok (.istore_n 1, 1) := dk_60 (dk_at dksX0_inverse_0 1 rfl rfl)
theorem dX0_inverse_2 : decode cX0_inverse 2 = .ok (.iload_n 1, 1) := dk_27 (dk_at dksX0_inverse_0 2 rfl rfl)
theorem dX0_inverse_3 : decode cX0_inverse 3 = .ok (.sipush 256, 3) := dk_17 1 0 (dk_at dksX0_inverse_0 3 rfl rfl)
theorem dX0_inverse_6 : decode cX0_inverse 6 = .ok (.if_icmp .ge 20, 3) := dk_162 0 20 (dk_at dksX0_inverse_0 6 rfl rfl)
theorem dX0_inverse_9 : decode cX0_inverse 9 = .ok (.iload_n 0, 1) := dk_26 (dk_at dksX0_inverse_0 9 rfl rfl)
theorem dX0_inverse_10 : decode cX0_inverse 10 = .ok (.iload_n 1, 1) := dk_27 (dk_at dksX0_inverse_0 10 rfl rfl)
theorem dX0_inverse_11 : decode cX0_inverse 11 = .ok (.invokestatic 7, 3) := dk_184 0 7 (dk_at dksX0_inverse_0 11 rfl rfl)
theorem dX0_inverse_14 : decode cX0_inverse 14 = .ok (.iconst 1, 1) := dk_4 (dk_at dksX0_inverse_0 14 rfl rfl)
theorem dX0_inverse_15 : decode cX0_inverse 15 = .ok (.if_icmp .ne 5, 3) := dk_160 0 5 (dk_at dksX0_inverse_0 15 rfl rfl)
theorem dX0_inverse_18 : decode cX0_inverse 18 = .ok (.iload_n 1, 1) := dk_27 (dk_at dksX0_inverse_0 18 rfl rfl)
theorem dX0_inverse_19 : decode cX0_inverse 19 = .ok (.ireturn, 1) := dk_172 (dk_at dksX0_inverse_0 19 rfl rfl)
theorem dX0_inverse_20 : decode cX0_inverse 20 = .ok (.iinc 1 1, 3) := dk_132 1 1 (dk_at dksX0_inverse_0 20 rfl rfl)
theorem dX0_inverse_23 : decode cX0_inverse 23 = .ok (.goto (-21), 3) := dk_167 255 235 (dk_at dksX0_inverse_1 0 rfl rfl)
theorem dX0_inverse_26 : decode cX0_inverse 26 = .ok (.iconst (-1), 1) := dk_2 (dk_at dksX0_inverse_1 3 rfl rfl)
theorem dX0_inverse_27 : decode cX0_inverse 27 = .ok (.ireturn, 1) := dk_172 (dk_at dksX0_inverse_1 4 rfl rfl)
abbrev cX0_power : ByteArray := method_5_code
def yX0_power : MethodName := ⟨RX0, "power", "(II)I"⟩
def dkwX0_power_0 : List UInt8 := [4, 61, 3, 62, 29, 27, 162, 0, 15, 28, 26, 184, 0, 7, 61, 132, 3, 1, 167, 255, 242, 28, 172]
abbrev dktX0_power_0 : List UInt8 := dkwX0_power_0 ++ []
theorem dksX0_power_0 : cX0_power.data.toList.drop 0 = dktX0_power_0 := by decide +kernel
theorem dX0_power_0 : decode cX0_power 0 = .ok (.iconst 1, 1) := dk_4 (dk_at dksX0_power_0 0 rfl rfl)
theorem dX0_power_1 : decode cX0_power 1 = .ok (.istore_n 2, 1) := dk_61 (dk_at dksX0_power_0 1 rfl rfl)
theorem dX0_power_2 : decode cX0_power 2 = .ok (.iconst 0, 1) := dk_3 (dk_at dksX0_power_0 2 rfl rfl)
theorem dX0_power_3 : decode cX0_power 3 = .ok (.istore_n 3, 1) := dk_62 (dk_at dksX0_power_0 3 rfl rfl)
theorem dX0_power_4 : decode cX0_power 4 = .ok (.iload_n 3, 1) := dk_29 (dk_at dksX0_power_0 4 rfl rfl)
theorem dX0_power_5 : decode cX0_power 5 = .ok (.iload_n 1, 1) := dk_27 (dk_at dksX0_power_0 5 rfl rfl)
theorem dX0_power_6 : decode cX0_power 6 = .ok (.if_icmp .ge 15, 3) := dk_162 0 15 (dk_at dksX0_power_0 6 rfl rfl)
theorem dX0_power_9 : decode cX0_power 9 = .ok (.iload_n 2, 1) := dk_28 (dk_at dksX0_power_0 9 rfl rfl)
theorem dX0_power_10 : decode cX0_power 10 = .ok (.iload_n 0, 1) := dk_26 (dk_at dksX0_power_0 10 rfl rfl)
theorem dX0_power_11 : decode cX0_power 11 = .ok (.invokestatic 7, 3) := dk_184 0 7 (dk_at dksX0_power_0 11 rfl rfl)
theorem dX0_power_14 : decode cX0_power 14 = .ok (.istore_n 2, 1) := dk_61 (dk_at dksX0_power_0 14 rfl rfl)
theorem dX0_power_15 : decode cX0_power 15 = .ok (.iinc 3 1, 3) := dk_132 3 1 (dk_at dksX0_power_0 15 rfl rfl)
theorem dX0_power_18 : decode cX0_power 18 = .ok (.goto (-14), 3) := dk_167 255 242 (dk_at dksX0_power_0 18 rfl rfl)
theorem dX0_power_21 : decode cX0_power 21 = .ok (.iload_n 2, 1) := dk_28 (dk_at dksX0_power_0 21 rfl rfl)
theorem dX0_power_22 : decode cX0_power 22 = .ok (.ireturn, 1) := dk_172 (dk_at dksX0_power_0 22 rfl rfl)
abbrev cX0_field : ByteArray := method_7_code
def yX0_field : MethodName := ⟨RX0, "field", "(LByteField;II)Z"⟩
def dkwX0_field_14 : List UInt8 := [25, 4, 21, 6, 4, 84, 132, 5, 1, 167, 255, 207, 4, 172]
abbrev dktX0_field_14 : List UInt8 := dkwX0_field_14 ++ []
def dkwX0_field_13 : List UInt8 := [21, 6, 4, 161, 0, 19, 21, 6, 17, 0, 255, 163, 0, 11, 25, 4, 21, 6, 51, 153, 0, 5, 3, 172]
abbrev dktX0_field_13 : List UInt8 := dkwX0_field_13 ++ dktX0_field_14
def dkwX0_field_12 : List UInt8 := [182, 0, 38, 87, 3, 54, 5, 21, 5, 17, 0, 255, 162, 0, 47, 42, 21, 5, 182, 0, 44, 54, 6]
abbrev dktX0_field_12 : List UInt8 := dkwX0_field_12 ++ dktX0_field_13
def dkwX0_field_11 : List UInt8 := [21, 6, 159, 0, 5, 3, 172, 132, 4, 1, 167, 254, 253, 17, 1, 0, 188, 4, 58, 4, 42, 5]
abbrev dktX0_field_11 : List UInt8 := dkwX0_field_11 ++ dktX0_field_12
def dkwX0_field_10 : List UInt8 := [167, 0, 4, 4, 160, 0, 24, 42, 17, 0, 254, 182, 0, 44, 21, 4, 154, 0, 7, 3, 167, 0, 5]
abbrev dktX0_field_10 : List UInt8 := dkwX0_field_10 ++ dktX0_field_11
def dkwX0_field_9 : List UInt8 := [21, 4, 182, 0, 38, 21, 4, 160, 0, 44, 42, 17, 0, 255, 182, 0, 44, 21, 4, 154, 0, 7, 3]
abbrev dktX0_field_9 : List UInt8 := dkwX0_field_9 ++ dktX0_field_10
def dkwX0_field_8 : List UInt8 := [160, 0, 20, 42, 27, 21, 4, 182, 0, 35, 42, 27, 21, 6, 182, 0, 20, 159, 0, 5, 3, 172, 42]
abbrev dktX0_field_8 : List UInt8 := dkwX0_field_8 ++ dktX0_field_9
def dkwX0_field_7 : List UInt8 := [21, 4, 154, 0, 12, 21, 6, 2, 159, 0, 37, 167, 0, 32, 42, 21, 4, 21, 6, 182, 0, 20, 4]
abbrev dktX0_field_7 : List UInt8 := dkwX0_field_7 ++ dktX0_field_8
def dkwX0_field_6 : List UInt8 := [42, 42, 21, 4, 182, 0, 27, 27, 182, 0, 20, 159, 0, 5, 3, 172, 42, 21, 4, 182, 0, 31, 54, 6]
abbrev dktX0_field_6 : List UInt8 := dkwX0_field_6 ++ dktX0_field_7
def dkwX0_field_5 : List UInt8 := [42, 21, 4, 182, 0, 27, 42, 27, 182, 0, 27, 130, 160, 0, 26, 42, 21, 4, 27, 21, 4, 182, 0, 23]
abbrev dktX0_field_5 : List UInt8 := dkwX0_field_5 ++ dktX0_field_6
def dkwX0_field_4 : List UInt8 := [2, 167, 0, 5, 21, 4, 159, 0, 5, 3, 172, 45, 21, 5, 4, 84, 42, 21, 4, 27, 130, 182, 0, 27]
abbrev dktX0_field_4 : List UInt8 := dkwX0_field_4 ++ dktX0_field_5
def dkwX0_field_3 : List UInt8 := [3, 172, 27, 153, 0, 10, 45, 21, 5, 51, 154, 0, 23, 42, 21, 5, 27, 182, 0, 35, 27, 154, 0, 7]
abbrev dktX0_field_3 : List UInt8 := dkwX0_field_3 ++ dktX0_field_4
def dkwX0_field_2 : List UInt8 := [160, 0, 24, 42, 21, 4, 28, 130, 27, 182, 0, 20, 21, 5, 42, 28, 27, 182, 0, 20, 130, 159, 0, 5]
abbrev dktX0_field_2 : List UInt8 := dkwX0_field_2 ++ dktX0_field_3
def dkwX0_field_1 : List UInt8 := [54, 5, 21, 5, 21, 4, 27, 184, 0, 7, 160, 0, 36, 21, 5, 42, 27, 21, 4, 182, 0, 20]
abbrev dktX0_field_1 : List UInt8 := dkwX0_field_1 ++ dktX0_field_2
def dkwX0_field_0 : List UInt8 := [17, 1, 0, 188, 4, 78, 3, 54, 4, 21, 4, 17, 1, 0, 162, 1, 1, 42, 21, 4, 27, 182, 0, 20]
abbrev dktX0_field_0 : List UInt8 := dkwX0_field_0 ++ dktX0_field_1
theorem dksX0_field_0 : cX0_field.data.toList.drop 0 = dktX0_field_0 := by decide +kernel
theorem dksX0_field_1 : cX0_field.data.toList.drop 24 = dktX0_field_1 := dk_seg dksX0_field_0 24 rfl rfl
theorem dksX0_field_2 : cX0_field.data.toList.drop 46 = dktX0_field_2 := dk_seg dksX0_field_1 22 rfl rfl
theorem dksX0_field_3 : cX0_field.data.toList.drop 70 = dktX0_field_3 := dk_seg dksX0_field_2 24 rfl rfl
theorem dksX0_field_4 : cX0_field.data.toList.drop 94 = dktX0_field_4 := dk_seg dksX0_field_3 24 rfl rfl
theorem dksX0_field_5 : cX0_field.data.toList.drop 118 = dktX0_field_5 := dk_seg dksX0_field_4 24 rfl rfl
theorem dksX0_field_6 : cX0_field.data.toList.drop 142 = dktX0_field_6 := dk_seg dksX0_field_5 24 rfl rfl
theorem dksX0_field_7 : cX0_field.data.toList.drop 166 = dktX0_field_7 := dk_seg dksX0_field_6 24 rfl rfl
theorem dksX0_field_8 : cX0_field.data.toList.drop 189 = dktX0_field_8 := dk_seg dksX0_field_7 23 rfl rfl
theorem dksX0_field_9 : cX0_field.data.toList.drop 212 = dktX0_field_9 := dk_seg dksX0_field_8 23 rfl rfl
theorem dksX0_field_10 : cX0_field.data.toList.drop 235 = dktX0_field_10 := dk_seg dksX0_field_9 23 rfl rfl
theorem dksX0_field_11 : cX0_field.data.toList.drop 258 = dktX0_field_11 := dk_seg dksX0_field_10 23 rfl rfl
theorem dksX0_field_12 : cX0_field.data.toList.drop 280 = dktX0_field_12 := dk_seg dksX0_field_11 22 rfl rfl
theorem dksX0_field_13 : cX0_field.data.toList.drop 303 = dktX0_field_13 := dk_seg dksX0_field_12 23 rfl rfl
theorem dksX0_field_14 : cX0_field.data.toList.drop 327 = dktX0_field_14 := dk_seg dksX0_field_13 24 rfl rfl
theorem dX0_field_0 : decode cX0_field 0 = .ok (.sipush 256, 3) := dk_17 1 0 (dk_at dksX0_field_0 0 rfl rfl)
theorem dX0_field_3 : decode cX0_field 3 = .ok (.newarray .boolean, 2) := dk_188_4 (dk_at dksX0_field_0 3 rfl rfl)
theorem dX0_field_5 : decode cX0_field 5 = .ok (.astore_n 3, 1) := dk_78 (dk_at dksX0_field_0 5 rfl rfl)
theorem dX0_field_6 : decode cX0_field 6 = .ok (.iconst 0, 1) := dk_3 (dk_at dksX0_field_0 6 rfl rfl)
theorem dX0_field_7 : decode cX0_field 7 = .ok (.istore 4, 2) := dk_54 4 (dk_at dksX0_field_0 7 rfl rfl)
theorem dX0_field_9 : decode cX0_field 9 = .ok (.iload 4, 2) := dk_21 4 (dk_at dksX0_field_0 9 rfl rfl)
theorem dX0_field_11 : decode cX0_field 11 = .ok (.sipush 256, 3) := dk_17 1 0 (dk_at dksX0_field_0 11 rfl rfl)
theorem dX0_field_14 : decode cX0_field 14 = .ok (.if_icmp .ge 257, 3) := dk_162 1 1 (dk_at dksX0_field_0 14 rfl rfl)
theorem dX0_field_17 : decode cX0_field 17 = .ok (.aload_n 0, 1) := dk_42 (dk_at dksX0_field_0 17 rfl rfl)
theorem dX0_field_18 : decode cX0_field 18 = .ok (.iload 4, 2) := dk_21 4 (dk_at dksX0_field_0 18 rfl rfl)
theorem dX0_field_20 : decode cX0_field 20 = .ok (.iload_n 1, 1) := dk_27 (dk_at dksX0_field_0 20 rfl rfl)
theorem dX0_field_21 : decode cX0_field 21 = .ok (.invokevirtual 20, 3) := dk_182 0 20 (dk_at dksX0_field_0 21 rfl rfl)
theorem dX0_field_24 : decode cX0_field 24 = .ok (.istore 5, 2) := dk_54 5 (dk_at dksX0_field_1 0 rfl rfl)
theorem dX0_field_26 : decode cX0_field 26 = .ok (.iload 5, 2) := dk_21 5 (dk_at dksX0_field_1 2 rfl rfl)
theorem dX0_field_28 : decode cX0_field 28 = .ok (.iload 4, 2) := dk_21 4 (dk_at dksX0_field_1 4 rfl rfl)
theorem dX0_field_30 : decode cX0_field 30 = .ok (.iload_n 1, 1) := dk_27 (dk_at dksX0_field_1 6 rfl rfl)
theorem dX0_field_31 : decode cX0_field 31 = .ok (.invokestatic 7, 3) := dk_184 0 7 (dk_at dksX0_field_1 7 rfl rfl)
theorem dX0_field_34 : decode cX0_field 34 = .ok (.if_icmp .ne 36, 3) := dk_160 0 36 (dk_at dksX0_field_1 10 rfl rfl)
theorem dX0_field_37 : decode cX0_field 37 = .ok (.iload 5, 2) := dk_21 5 (dk_at dksX0_field_1 13 rfl rfl)
theorem dX0_field_39 : decode cX0_field 39 = .ok (.aload_n 0, 1) := dk_42 (dk_at dksX0_field_1 15 rfl rfl)
theorem dX0_field_40 : decode cX0_field 40 = .ok (.iload_n 1, 1) := dk_27 (dk_at dksX0_field_1 16 rfl rfl)
theorem dX0_field_41 : decode cX0_field 41 = .ok (.iload 4, 2) := dk_21 4 (dk_at dksX0_field_1 17 rfl rfl)
theorem dX0_field_43 : decode cX0_field 43 = .ok (.invokevirtual 20, 3) := dk_182 0 20 (dk_at dksX0_field_1 19 rfl rfl)
theorem dX0_field_46 : decode cX0_field 46 = .ok (.if_icmp .ne 24, 3) := dk_160 0 24 (dk_at dksX0_field_2 0 rfl rfl)
theorem dX0_field_49 : decode cX0_field 49 = .ok (.aload_n 0, 1) := dk_42 (dk_at dksX0_field_2 3 rfl rfl)
theorem dX0_field_50 : decode cX0_field 50 = .ok (.iload 4, 2) := dk_21 4 (dk_at dksX0_field_2 4 rfl rfl)
theorem dX0_field_52 : decode cX0_field 52 = .ok (.iload_n 2, 1) := dk_28 (dk_at dksX0_field_2 6 rfl rfl)
theorem dX0_field_53 : decode cX0_field 53 = .ok (.ixor, 1) := dk_130 (dk_at dksX0_field_2 7 rfl rfl)
theorem dX0_field_54 : decode cX0_field 54 = .ok (.iload_n 1, 1) := dk_27 (dk_at dksX0_field_2 8 rfl rfl)
theorem dX0_field_55 : decode cX0_field 55 = .ok (.invokevirtual 20, 3) := dk_182 0 20 (dk_at dksX0_field_2 9 rfl rfl)
theorem dX0_field_58 : decode cX0_field 58 = .ok (.iload 5, 2) := dk_21 5 (dk_at dksX0_field_2 12 rfl rfl)
theorem dX0_field_60 : decode cX0_field 60 = .ok (.aload_n 0, 1) := dk_42 (dk_at dksX0_field_2 14 rfl rfl)
theorem dX0_field_61 : decode cX0_field 61 = .ok (.iload_n 2, 1) := dk_28 (dk_at dksX0_field_2 15 rfl rfl)
theorem dX0_field_62 : decode cX0_field 62 = .ok (.iload_n 1, 1) := dk_27 (dk_at dksX0_field_2 16 rfl rfl)
theorem dX0_field_63 : decode cX0_field 63 = .ok (.invokevirtual 20, 3) := dk_182 0 20 (dk_at dksX0_field_2 17 rfl rfl)
theorem dX0_field_66 : decode cX0_field 66 = .ok (.ixor, 1) := dk_130 (dk_at dksX0_field_2 20 rfl rfl)
theorem dX0_field_67 : decode cX0_field 67 = .ok (.if_icmp .eq 5, 3) := dk_159 0 5 (dk_at dksX0_field_2 21 rfl rfl)
theorem dX0_field_70 : decode cX0_field 70 = .ok (.iconst 0, 1) := dk_3 (dk_at dksX0_field_3 0 rfl rfl)
theorem dX0_field_71 : decode cX0_field 71 = .ok (.ireturn, 1) := dk_172 (dk_at dksX0_field_3 1 rfl rfl)
theorem dX0_field_72 : decode cX0_field 72 = .ok (.iload_n 1, 1) := dk_27 (dk_at dksX0_field_3 2 rfl rfl)
theorem dX0_field_73 : decode cX0_field 73 = .ok (.ifCond .eq 10, 3) := dk_153 0 10 (dk_at dksX0_field_3 3 rfl rfl)
theorem dX0_field_76 : decode cX0_field 76 = .ok (.aload_n 3, 1) := dk_45 (dk_at dksX0_field_3 6 rfl rfl)
theorem dX0_field_77 : decode cX0_field 77 = .ok (.iload 5, 2) := dk_21 5 (dk_at dksX0_field_3 7 rfl rfl)
theorem dX0_field_79 : decode cX0_field 79 = .ok (.baload, 1) := dk_51 (dk_at dksX0_field_3 9 rfl rfl)
theorem dX0_field_80 : decode cX0_field 80 = .ok (.ifCond .ne 23, 3) := dk_154 0 23 (dk_at dksX0_field_3 10 rfl rfl)
theorem dX0_field_83 : decode cX0_field 83 = .ok (.aload_n 0, 1) := dk_42 (dk_at dksX0_field_3 13 rfl rfl)
theorem dX0_field_84 : decode cX0_field 84 = .ok (.iload 5, 2) := dk_21 5 (dk_at dksX0_field_3 14 rfl rfl)
theorem dX0_field_86 : decode cX0_field 86 = .ok (.iload_n 1, 1) := dk_27 (dk_at dksX0_field_3 16 rfl rfl)
theorem dX0_field_87 : decode cX0_field 87 = .ok (.invokevirtual 35, 3) := dk_182 0 35 (dk_at dksX0_field_3 17 rfl rfl)
theorem dX0_field_90 : decode cX0_field 90 = .ok (.iload_n 1, 1) := dk_27 (dk_at dksX0_field_3 20 rfl rfl)
theorem dX0_field_91 : decode cX0_field 91 = .ok (.ifCond .ne 7, 3) := dk_154 0 7 (dk_at dksX0_field_3 21 rfl rfl)
theorem dX0_field_94 : decode cX0_field 94 = .ok (.iconst (-1), 1) := dk_2 (dk_at dksX0_field_4 0 rfl rfl)
theorem dX0_field_95 : decode cX0_field 95 = .ok (.goto 5, 3) := dk_167 0 5 (dk_at dksX0_field_4 1 rfl rfl)
theorem dX0_field_98 : decode cX0_field 98 = .ok (.iload 4, 2) := dk_21 4 (dk_at dksX0_field_4 4 rfl rfl)
theorem dX0_field_100 : decode cX0_field 100 = .ok (.if_icmp .eq 5, 3) := dk_159 0 5 (dk_at dksX0_field_4 6 rfl rfl)
theorem dX0_field_103 : decode cX0_field 103 = .ok (.iconst 0, 1) := dk_3 (dk_at dksX0_field_4 9 rfl rfl)
theorem dX0_field_104 : decode cX0_field 104 = .ok (.ireturn, 1) := dk_172 (dk_at dksX0_field_4 10 rfl rfl)
theorem dX0_field_105 : decode cX0_field 105 = .ok (.aload_n 3, 1) := dk_45 (dk_at dksX0_field_4 11 rfl rfl)
theorem dX0_field_106 : decode cX0_field 106 = .ok (.iload 5, 2) := dk_21 5 (dk_at dksX0_field_4 12 rfl rfl)
theorem dX0_field_108 : decode cX0_field 108 = .ok (.iconst 1, 1) := dk_4 (dk_at dksX0_field_4 14 rfl rfl)
theorem dX0_field_109 : decode cX0_field 109 = .ok (.bastore, 1) := dk_84 (dk_at dksX0_field_4 15 rfl rfl)
theorem dX0_field_110 : decode cX0_field 110 = .ok (.aload_n 0, 1) := dk_42 (dk_at dksX0_field_4 16 rfl rfl)
theorem dX0_field_111 : decode cX0_field 111 = .ok (.iload 4, 2) := dk_21 4 (dk_at dksX0_field_4 17 rfl rfl)
theorem dX0_field_113 : decode cX0_field 113 = .ok (.iload_n 1, 1) := dk_27 (dk_at dksX0_field_4 19 rfl rfl)
theorem dX0_field_114 : decode cX0_field 114 = .ok (.ixor, 1) := dk_130 (dk_at dksX0_field_4 20 rfl rfl)
theorem dX0_field_115 : decode cX0_field 115 = .ok (.invokevirtual 27, 3) := dk_182 0 27 (dk_at dksX0_field_4 21 rfl rfl)
theorem dX0_field_118 : decode cX0_field 118 = .ok (.aload_n 0, 1) := dk_42 (dk_at dksX0_field_5 0 rfl rfl)
theorem dX0_field_119 : decode cX0_field 119 = .ok (.iload 4, 2) := dk_21 4 (dk_at dksX0_field_5 1 rfl rfl)
theorem dX0_field_121 : decode cX0_field 121 = .ok (.invokevirtual 27, 3) := dk_182 0 27 (dk_at dksX0_field_5 3 rfl rfl)
theorem dX0_field_124 : decode cX0_field 124 = .ok (.aload_n 0, 1) := dk_42 (dk_at dksX0_field_5 6 rfl rfl)
theorem dX0_field_125 : decode cX0_field 125 = .ok (.iload_n 1, 1) := dk_27 (dk_at dksX0_field_5 7 rfl rfl)
theorem dX0_field_126 : decode cX0_field 126 = .ok (.invokevirtual 27, 3) := dk_182 0 27 (dk_at dksX0_field_5 8 rfl rfl)
theorem dX0_field_129 : decode cX0_field 129 = .ok (.ixor, 1) := dk_130 (dk_at dksX0_field_5 11 rfl rfl)
theorem dX0_field_130 : decode cX0_field 130 = .ok (.if_icmp .ne 26, 3) := dk_160 0 26 (dk_at dksX0_field_5 12 rfl rfl)
theorem dX0_field_133 : decode cX0_field 133 = .ok (.aload_n 0, 1) := dk_42 (dk_at dksX0_field_5 15 rfl rfl)
theorem dX0_field_134 : decode cX0_field 134 = .ok (.iload 4, 2) := dk_21 4 (dk_at dksX0_field_5 16 rfl rfl)
theorem dX0_field_136 : decode cX0_field 136 = .ok (.iload_n 1, 1) := dk_27 (dk_at dksX0_field_5 18 rfl rfl)
theorem dX0_field_137 : decode cX0_field 137 = .ok (.iload 4, 2) := dk_21 4 (dk_at dksX0_field_5 19 rfl rfl)
theorem dX0_field_139 : decode cX0_field 139 = .ok (.invokevirtual 23, 3) := dk_182 0 23 (dk_at dksX0_field_5 21 rfl rfl)
theorem dX0_field_142 : decode cX0_field 142 = .ok (.aload_n 0, 1) := dk_42 (dk_at dksX0_field_6 0 rfl rfl)
theorem dX0_field_143 : decode cX0_field 143 = .ok (.aload_n 0, 1) := dk_42 (dk_at dksX0_field_6 1 rfl rfl)
theorem dX0_field_144 : decode cX0_field 144 = .ok (.iload 4, 2) := dk_21 4 (dk_at dksX0_field_6 2 rfl rfl)
theorem dX0_field_146 : decode cX0_field 146 = .ok (.invokevirtual 27, 3) := dk_182 0 27 (dk_at dksX0_field_6 4 rfl rfl)
theorem dX0_field_149 : decode cX0_field 149 = .ok (.iload_n 1, 1) := dk_27 (dk_at dksX0_field_6 7 rfl rfl)
theorem dX0_field_150 : decode cX0_field 150 = .ok (.invokevirtual 20, 3) := dk_182 0 20 (dk_at dksX0_field_6 8 rfl rfl)
theorem dX0_field_153 : decode cX0_field 153 = .ok (.if_icmp .eq 5, 3) := dk_159 0 5 (dk_at dksX0_field_6 11 rfl rfl)
theorem dX0_field_156 : decode cX0_field 156 = .ok (.iconst 0, 1) := dk_3 (dk_at dksX0_field_6 14 rfl rfl)
theorem dX0_field_157 : decode cX0_field 157 = .ok (.ireturn, 1) := dk_172 (dk_at dksX0_field_6 15 rfl rfl)
theorem dX0_field_158 : decode cX0_field 158 = .ok (.aload_n 0, 1) := dk_42 (dk_at dksX0_field_6 16 rfl rfl)
theorem dX0_field_159 : decode cX0_field 159 = .ok (.iload 4, 2) := dk_21 4 (dk_at dksX0_field_6 17 rfl rfl)
theorem dX0_field_161 : decode cX0_field 161 = .ok (.invokevirtual 31, 3) := dk_182 0 31 (dk_at dksX0_field_6 19 rfl rfl)
theorem dX0_field_164 : decode cX0_field 164 = .ok (.istore 6, 2) := dk_54 6 (dk_at dksX0_field_6 22 rfl rfl)
theorem dX0_field_166 : decode cX0_field 166 = .ok (.iload 4, 2) := dk_21 4 (dk_at dksX0_field_7 0 rfl rfl)
theorem dX0_field_168 : decode cX0_field 168 = .ok (.ifCond .ne 12, 3) := dk_154 0 12 (dk_at dksX0_field_7 2 rfl rfl)
theorem dX0_field_171 : decode cX0_field 171 = .ok (.iload 6, 2) := dk_21 6 (dk_at dksX0_field_7 5 rfl rfl)
theorem dX0_field_173 : decode cX0_field 173 = .ok (.iconst (-1), 1) := dk_2 (dk_at dksX0_field_7 7 rfl rfl)
theorem dX0_field_174 : decode cX0_field 174 = .ok (.if_icmp .eq 37, 3) := dk_159 0 37 (dk_at dksX0_field_7 8 rfl rfl)
theorem dX0_field_177 : decode cX0_field 177 = .ok (.goto 32, 3) := dk_167 0 32 (dk_at dksX0_field_7 11 rfl rfl)
theorem dX0_field_180 : decode cX0_field 180 = .ok (.aload_n 0, 1) := dk_42 (dk_at dksX0_field_7 14 rfl rfl)
theorem dX0_field_181 : decode cX0_field 181 = .ok (.iload 4, 2) := dk_21 4 (dk_at dksX0_field_7 15 rfl rfl)
theorem dX0_field_183 : decode cX0_field 183 = .ok (.iload 6, 2) := dk_21 6 (dk_at dksX0_field_7 17 rfl rfl)
theorem dX0_field_185 : decode cX0_field 185 = .ok (.invokevirtual 20, 3) := dk_182 0 20 (dk_at dksX0_field_7 19 rfl rfl)
theorem dX0_field_188 : decode cX0_field 188 = .ok (.iconst 1, 1) := dk_4 (dk_at dksX0_field_7 22 rfl rfl)
theorem dX0_field_189 : decode cX0_field 189 = .ok (.if_icmp .ne 20, 3) := dk_160 0 20 (dk_at dksX0_field_8 0 rfl rfl)
theorem dX0_field_192 : decode cX0_field 192 = .ok (.aload_n 0, 1) := dk_42 (dk_at dksX0_field_8 3 rfl rfl)
theorem dX0_field_193 : decode cX0_field 193 = .ok (.iload_n 1, 1) := dk_27 (dk_at dksX0_field_8 4 rfl rfl)
theorem dX0_field_194 : decode cX0_field 194 = .ok (.iload 4, 2) := dk_21 4 (dk_at dksX0_field_8 5 rfl rfl)
theorem dX0_field_196 : decode cX0_field 196 = .ok (.invokevirtual 35, 3) := dk_182 0 35 (dk_at dksX0_field_8 7 rfl rfl)
theorem dX0_field_199 : decode cX0_field 199 = .ok (.aload_n 0, 1) := dk_42 (dk_at dksX0_field_8 10 rfl rfl)
theorem dX0_field_200 : decode cX0_field 200 = .ok (.iload_n 1, 1) := dk_27 (dk_at dksX0_field_8 11 rfl rfl)
theorem dX0_field_201 : decode cX0_field 201 = .ok (.iload 6, 2) := dk_21 6 (dk_at dksX0_field_8 12 rfl rfl)
theorem dX0_field_203 : decode cX0_field 203 = .ok (.invokevirtual 20, 3) := dk_182 0 20 (dk_at dksX0_field_8 14 rfl rfl)
theorem dX0_field_206 : decode cX0_field 206 = .ok (.if_icmp .eq 5, 3) := dk_159 0 5 (dk_at dksX0_field_8 17 rfl rfl)
theorem dX0_field_209 : decode cX0_field 209 = .ok (.iconst 0, 1) := dk_3 (dk_at dksX0_field_8 20 rfl rfl)
theorem dX0_field_210 : decode cX0_field 210 = .ok (.ireturn, 1) := dk_172 (dk_at dksX0_field_8 21 rfl rfl)
theorem dX0_field_211 : decode cX0_field 211 = .ok (.aload_n 0, 1) := dk_42 (dk_at dksX0_field_8 22 rfl rfl)
theorem dX0_field_212 : decode cX0_field 212 = .ok (.iload 4, 2) := dk_21 4 (dk_at dksX0_field_9 0 rfl rfl)
theorem dX0_field_214 : decode cX0_field 214 = .ok (.invokevirtual 38, 3) := dk_182 0 38 (dk_at dksX0_field_9 2 rfl rfl)
theorem dX0_field_217 : decode cX0_field 217 = .ok (.iload 4, 2) := dk_21 4 (dk_at dksX0_field_9 5 rfl rfl)
theorem dX0_field_219 : decode cX0_field 219 = .ok (.if_icmp .ne 44, 3) := dk_160 0 44 (dk_at dksX0_field_9 7 rfl rfl)
theorem dX0_field_222 : decode cX0_field 222 = .ok (.aload_n 0, 1) := dk_42 (dk_at dksX0_field_9 10 rfl rfl)
theorem dX0_field_223 : decode cX0_field 223 = .ok (.sipush 255, 3) := dk_17 0 255 (dk_at dksX0_field_9 11 rfl rfl)
theorem dX0_field_226 : decode cX0_field 226 = .ok (.invokevirtual 44, 3) := dk_182 0 44 (dk_at dksX0_field_9 14 rfl rfl)
theorem dX0_field_229 : decode cX0_field 229 = .ok (.iload 4, 2) := dk_21 4 (dk_at dksX0_field_9 17 rfl rfl)
theorem dX0_field_231 : decode cX0_field 231 = .ok (.ifCond .ne 7, 3) := dk_154 0 7 (dk_at dksX0_field_9 19 rfl rfl)
theorem dX0_field_234 : decode cX0_field 234 = .ok (.iconst 0, 1) := dk_3 (dk_at dksX0_field_9 22 rfl rfl)
theorem dX0_field_235 : decode cX0_field 235 = .ok (.goto 4, 3) := dk_167 0 4 (dk_at dksX0_field_10 0 rfl rfl)
theorem dX0_field_238 : decode cX0_field 238 = .ok (.iconst 1, 1) := dk_4 (dk_at dksX0_field_10 3 rfl rfl)
theorem dX0_field_239 : decode cX0_field 239 = .ok (.if_icmp .ne 24, 3) := dk_160 0 24 (dk_at dksX0_field_10 4 rfl rfl)
theorem dX0_field_242 : decode cX0_field 242 = .ok (.aload_n 0, 1) := dk_42 (dk_at dksX0_field_10 7 rfl rfl)
theorem dX0_field_243 : decode cX0_field 243 = .ok (.sipush 254, 3) := dk_17 0 254 (dk_at dksX0_field_10 8 rfl rfl)
theorem dX0_field_246 : decode cX0_field 246 = .ok (.invokevirtual 44, 3) := dk_182 0 44 (dk_at dksX0_field_10 11 rfl rfl)
theorem dX0_field_249 : decode cX0_field 249 = .ok (.iload 4, 2) := dk_21 4 (dk_at dksX0_field_10 14 rfl rfl)
theorem dX0_field_251 : decode cX0_field 251 = .ok (.ifCond .ne 7, 3) := dk_154 0 7 (dk_at dksX0_field_10 16 rfl rfl)
theorem dX0_field_254 : decode cX0_field 254 = .ok (.iconst 0, 1) := dk_3 (dk_at dksX0_field_10 19 rfl rfl)
theorem dX0_field_255 : decode cX0_field 255 = .ok (.goto 5, 3) := dk_167 0 5 (dk_at dksX0_field_10 20 rfl rfl)
theorem dX0_field_258 : decode cX0_field 258 = .ok (.iload 6, 2) := dk_21 6 (dk_at dksX0_field_11 0 rfl rfl)
theorem dX0_field_260 : decode cX0_field 260 = .ok (.if_icmp .eq 5, 3) := dk_159 0 5 (dk_at dksX0_field_11 2 rfl rfl)
theorem dX0_field_263 : decode cX0_field 263 = .ok (.iconst 0, 1) := dk_3 (dk_at dksX0_field_11 5 rfl rfl)
theorem dX0_field_264 : decode cX0_field 264 = .ok (.ireturn, 1) := dk_172 (dk_at dksX0_field_11 6 rfl rfl)
theorem dX0_field_265 : decode cX0_field 265 = .ok (.iinc 4 1, 3) := dk_132 4 1 (dk_at dksX0_field_11 7 rfl rfl)
theorem dX0_field_268 : decode cX0_field 268 = .ok (.goto (-259), 3) := dk_167 254 253 (dk_at dksX0_field_11 10 rfl rfl)
theorem dX0_field_271 : decode cX0_field 271 = .ok (.sipush 256, 3) := dk_17 1 0 (dk_at dksX0_field_11 13 rfl rfl)
theorem dX0_field_274 : decode cX0_field 274 = .ok (.newarray .boolean, 2) := dk_188_4 (dk_at dksX0_field_11 16 rfl rfl)
theorem dX0_field_276 : decode cX0_field 276 = .ok (.astore 4, 2) := dk_58 4 (dk_at dksX0_field_11 18 rfl rfl)
theorem dX0_field_278 : decode cX0_field 278 = .ok (.aload_n 0, 1) := dk_42 (dk_at dksX0_field_11 20 rfl rfl)
theorem dX0_field_279 : decode cX0_field 279 = .ok (.iconst 2, 1) := dk_5 (dk_at dksX0_field_11 21 rfl rfl)
theorem dX0_field_280 : decode cX0_field 280 = .ok (.invokevirtual 38, 3) := dk_182 0 38 (dk_at dksX0_field_12 0 rfl rfl)
theorem dX0_field_283 : decode cX0_field 283 = .ok (.pop, 1) := dk_87 (dk_at dksX0_field_12 3 rfl rfl)
theorem dX0_field_284 : decode cX0_field 284 = .ok (.iconst 0, 1) := dk_3 (dk_at dksX0_field_12 4 rfl rfl)
theorem dX0_field_285 : decode cX0_field 285 = .ok (.istore 5, 2) := dk_54 5 (dk_at dksX0_field_12 5 rfl rfl)
theorem dX0_field_287 : decode cX0_field 287 = .ok (.iload 5, 2) := dk_21 5 (dk_at dksX0_field_12 7 rfl rfl)
theorem dX0_field_289 : decode cX0_field 289 = .ok (.sipush 255, 3) := dk_17 0 255 (dk_at dksX0_field_12 9 rfl rfl)
theorem dX0_field_292 : decode cX0_field 292 = .ok (.if_icmp .ge 47, 3) := dk_162 0 47 (dk_at dksX0_field_12 12 rfl rfl)
theorem dX0_field_295 : decode cX0_field 295 = .ok (.aload_n 0, 1) := dk_42 (dk_at dksX0_field_12 15 rfl rfl)
theorem dX0_field_296 : decode cX0_field 296 = .ok (.iload 5, 2) := dk_21 5 (dk_at dksX0_field_12 16 rfl rfl)
theorem dX0_field_298 : decode cX0_field 298 = .ok (.invokevirtual 44, 3) := dk_182 0 44 (dk_at dksX0_field_12 18 rfl rfl)
theorem dX0_field_301 : decode cX0_field 301 = .ok (.istore 6, 2) := dk_54 6 (dk_at dksX0_field_12 21 rfl rfl)
theorem dX0_field_303 : decode cX0_field 303 = .ok (.iload 6, 2) := dk_21 6 (dk_at dksX0_field_13 0 rfl rfl)
theorem dX0_field_305 : decode cX0_field 305 = .ok (.iconst 1, 1) := dk_4 (dk_at dksX0_field_13 2 rfl rfl)
theorem dX0_field_306 : decode cX0_field 306 = .ok (.if_icmp .lt 19, 3) := dk_161 0 19 (dk_at dksX0_field_13 3 rfl rfl)
theorem dX0_field_309 : decode cX0_field 309 = .ok (.iload 6, 2) := dk_21 6 (dk_at dksX0_field_13 6 rfl rfl)
theorem dX0_field_311 : decode cX0_field 311 = .ok (.sipush 255, 3) := dk_17 0 255 (dk_at dksX0_field_13 8 rfl rfl)
theorem dX0_field_314 : decode cX0_field 314 = .ok (.if_icmp .gt 11, 3) := dk_163 0 11 (dk_at dksX0_field_13 11 rfl rfl)
theorem dX0_field_317 : decode cX0_field 317 = .ok (.aload 4, 2) := dk_25 4 (dk_at dksX0_field_13 14 rfl rfl)
theorem dX0_field_319 : decode cX0_field 319 = .ok (.iload 6, 2) := dk_21 6 (dk_at dksX0_field_13 16 rfl rfl)
theorem dX0_field_321 : decode cX0_field 321 = .ok (.baload, 1) := dk_51 (dk_at dksX0_field_13 18 rfl rfl)
theorem dX0_field_322 : decode cX0_field 322 = .ok (.ifCond .eq 5, 3) := dk_153 0 5 (dk_at dksX0_field_13 19 rfl rfl)
theorem dX0_field_325 : decode cX0_field 325 = .ok (.iconst 0, 1) := dk_3 (dk_at dksX0_field_13 22 rfl rfl)
theorem dX0_field_326 : decode cX0_field 326 = .ok (.ireturn, 1) := dk_172 (dk_at dksX0_field_13 23 rfl rfl)
theorem dX0_field_327 : decode cX0_field 327 = .ok (.aload 4, 2) := dk_25 4 (dk_at dksX0_field_14 0 rfl rfl)
theorem dX0_field_329 : decode cX0_field 329 = .ok (.iload 6, 2) := dk_21 6 (dk_at dksX0_field_14 2 rfl rfl)
theorem dX0_field_331 : decode cX0_field 331 = .ok (.iconst 1, 1) := dk_4 (dk_at dksX0_field_14 4 rfl rfl)
theorem dX0_field_332 : decode cX0_field 332 = .ok (.bastore, 1) := dk_84 (dk_at dksX0_field_14 5 rfl rfl)
theorem dX0_field_333 : decode cX0_field 333 = .ok (.iinc 5 1, 3) := dk_132 5 1 (dk_at dksX0_field_14 6 rfl rfl)
theorem dX0_field_336 : decode cX0_field 336 = .ok (.goto (-49), 3) := dk_167 255 207 (dk_at dksX0_field_14 9 rfl rfl)
theorem dX0_field_339 : decode cX0_field 339 = .ok (.iconst 1, 1) := dk_4 (dk_at dksX0_field_14 12 rfl rfl)
theorem dX0_field_340 : decode cX0_field 340 = .ok (.ireturn, 1) := dk_172 (dk_at dksX0_field_14 13 rfl rfl)
abbrev cX0_roots : ByteArray := method_8_code
def yX0_roots : MethodName := ⟨RX0, "roots", "(LByteField;[I)Z"⟩
def dkwX0_roots_7 : List UInt8 := [167, 0, 4, 3, 45, 21, 4, 51, 159, 0, 5, 3, 172, 132, 4, 1, 167, 255, 181, 4, 172]
abbrev dktX0_roots_7 : List UInt8 := dkwX0_roots_7 ++ []
def dkwX0_roots_6 : List UInt8 := [54, 5, 132, 6, 255, 167, 255, 236, 44, 16, 8, 46, 4, 160, 0, 20, 21, 5, 154, 0, 7, 4]
abbrev dktX0_roots_6 : List UInt8 := dkwX0_roots_6 ++ dktX0_roots_7
def dkwX0_roots_5 : List UInt8 := [182, 0, 38, 54, 5, 16, 7, 54, 6, 21, 6, 155, 0, 21, 42, 21, 4, 44, 21, 6, 46, 182, 0, 41]
abbrev dktX0_roots_5 : List UInt8 := dkwX0_roots_5 ++ dktX0_roots_6
def dkwX0_roots_4 : List UInt8 := [132, 4, 1, 167, 255, 178, 3, 54, 4, 21, 4, 17, 1, 0, 162, 0, 73, 42, 44, 16, 8, 46]
abbrev dktX0_roots_4 : List UInt8 := dkwX0_roots_4 ++ dktX0_roots_5
def dkwX0_roots_3 : List UInt8 := [46, 167, 0, 4, 3, 42, 21, 5, 44, 21, 6, 46, 182, 0, 20, 130, 79, 132, 6, 255, 167, 255, 218]
abbrev dktX0_roots_3 : List UInt8 := dkwX0_roots_3 ++ dktX0_roots_4
def dkwX0_roots_2 : List UInt8 := [21, 4, 4, 96, 54, 6, 21, 6, 155, 0, 39, 44, 21, 6, 21, 6, 158, 0, 12, 44, 21, 6, 4, 100]
abbrev dktX0_roots_2 : List UInt8 := dkwX0_roots_2 ++ dktX0_roots_3
def dkwX0_roots_1 : List UInt8 := [162, 0, 77, 43, 7, 21, 4, 104, 4, 96, 184, 0, 16, 17, 0, 255, 126, 54, 5, 45, 21, 5, 4, 84]
abbrev dktX0_roots_1 : List UInt8 := dkwX0_roots_1 ++ dktX0_roots_2
def dkwX0_roots_0 : List UInt8 := [16, 9, 188, 10, 77, 17, 1, 0, 188, 4, 78, 44, 3, 4, 79, 3, 54, 4, 21, 4, 16, 8]
abbrev dktX0_roots_0 : List UInt8 := dkwX0_roots_0 ++ dktX0_roots_1
theorem dksX0_roots_0 : cX0_roots.data.toList.drop 0 = dktX0_roots_0 := by decide +kernel
theorem dksX0_roots_1 : cX0_roots.data.toList.drop 22 = dktX0_roots_1 := dk_seg dksX0_roots_0 22 rfl rfl
theorem dksX0_roots_2 : cX0_roots.data.toList.drop 46 = dktX0_roots_2 := dk_seg dksX0_roots_1 24 rfl rfl
theorem dksX0_roots_3 : cX0_roots.data.toList.drop 70 = dktX0_roots_3 := dk_seg dksX0_roots_2 24 rfl rfl
theorem dksX0_roots_4 : cX0_roots.data.toList.drop 93 = dktX0_roots_4 := dk_seg dksX0_roots_3 23 rfl rfl
theorem dksX0_roots_5 : cX0_roots.data.toList.drop 115 = dktX0_roots_5 := dk_seg dksX0_roots_4 22 rfl rfl
theorem dksX0_roots_6 : cX0_roots.data.toList.drop 139 = dktX0_roots_6 := dk_seg dksX0_roots_5 24 rfl rfl
theorem dksX0_roots_7 : cX0_roots.data.toList.drop 161 = dktX0_roots_7 := dk_seg dksX0_roots_6 22 rfl rfl
theorem dX0_roots_0 : decode cX0_roots 0 = .ok (.bipush 9, 2) := dk_16 9 (dk_at dksX0_roots_0 0 rfl rfl)
theorem dX0_roots_2 : decode cX0_roots 2 = .ok (.newarray .int, 2) := dk_188_10 (dk_at dksX0_roots_0 2 rfl rfl)
theorem dX0_roots_4 : decode cX0_roots 4 = .ok (.astore_n 2, 1) := dk_77 (dk_at dksX0_roots_0 4 rfl rfl)
theorem dX0_roots_5 : decode cX0_roots 5 = .ok (.sipush 256, 3) := dk_17 1 0 (dk_at dksX0_roots_0 5 rfl rfl)
theorem dX0_roots_8 : decode cX0_roots 8 = .ok (.newarray .boolean, 2) := dk_188_4 (dk_at dksX0_roots_0 8 rfl rfl)
theorem dX0_roots_10 : decode cX0_roots 10 = .ok (.astore_n 3, 1) := dk_78 (dk_at dksX0_roots_0 10 rfl rfl)
theorem dX0_roots_11 : decode cX0_roots 11 = .ok (.aload_n 2, 1) := dk_44 (dk_at dksX0_roots_0 11 rfl rfl)
theorem dX0_roots_12 : decode cX0_roots 12 = .ok (.iconst 0, 1) := dk_3 (dk_at dksX0_roots_0 12 rfl rfl)
theorem dX0_roots_13 : decode cX0_roots 13 = .ok (.iconst 1, 1) := dk_4 (dk_at dksX0_roots_0 13 rfl rfl)
theorem dX0_roots_14 : decode cX0_roots 14 = .ok (.iastore, 1) := dk_79 (dk_at dksX0_roots_0 14 rfl rfl)
theorem dX0_roots_15 : decode cX0_roots 15 = .ok (.iconst 0, 1) := dk_3 (dk_at dksX0_roots_0 15 rfl rfl)
theorem dX0_roots_16 : decode cX0_roots 16 = .ok (.istore 4, 2) := dk_54 4 (dk_at dksX0_roots_0 16 rfl rfl)
theorem dX0_roots_18 : decode cX0_roots 18 = .ok (.iload 4, 2) := dk_21 4 (dk_at dksX0_roots_0 18 rfl rfl)
theorem dX0_roots_20 : decode cX0_roots 20 = .ok (.bipush 8, 2) := dk_16 8 (dk_at dksX0_roots_0 20 rfl rfl)
theorem dX0_roots_22 : decode cX0_roots 22 = .ok (.if_icmp .ge 77, 3) := dk_162 0 77 (dk_at dksX0_roots_1 0 rfl rfl)
theorem dX0_roots_25 : decode cX0_roots 25 = .ok (.aload_n 1, 1) := dk_43 (dk_at dksX0_roots_1 3 rfl rfl)
theorem dX0_roots_26 : decode cX0_roots 26 = .ok (.iconst 4, 1) := dk_7 (dk_at dksX0_roots_1 4 rfl rfl)
theorem dX0_roots_27 : decode cX0_roots 27 = .ok (.iload 4, 2) := dk_21 4 (dk_at dksX0_roots_1 5 rfl rfl)
theorem dX0_roots_29 : decode cX0_roots 29 = .ok (.imul, 1) := dk_104 (dk_at dksX0_roots_1 7 rfl rfl)
theorem dX0_roots_30 : decode cX0_roots 30 = .ok (.iconst 1, 1) := dk_4 (dk_at dksX0_roots_1 8 rfl rfl)
theorem dX0_roots_31 : decode cX0_roots 31 = .ok (.iadd, 1) := dk_96 (dk_at dksX0_roots_1 9 rfl rfl)
theorem dX0_roots_32 : decode cX0_roots 32 = .ok (.invokestatic 16, 3) := dk_184 0 16 (dk_at dksX0_roots_1 10 rfl rfl)
theorem dX0_roots_35 : decode cX0_roots 35 = .ok (.sipush 255, 3) := dk_17 0 255 (dk_at dksX0_roots_1 13 rfl rfl)
theorem dX0_roots_38 : decode cX0_roots 38 = .ok (.iand, 1) := dk_126 (dk_at dksX0_roots_1 16 rfl rfl)
theorem dX0_roots_39 : decode cX0_roots 39 = .ok (.istore 5, 2) := dk_54 5 (dk_at dksX0_roots_1 17 rfl rfl)
theorem dX0_roots_41 : decode cX0_roots 41 = .ok (.aload_n 3, 1) := dk_45 (dk_at dksX0_roots_1 19 rfl rfl)
theorem dX0_roots_42 : decode cX0_roots 42 = .ok (.iload 5, 2) := dk_21 5 (dk_at dksX0_roots_1 20 rfl rfl)
theorem dX0_roots_44 : decode cX0_roots 44 = .ok (.iconst 1, 1) := dk_4 (dk_at dksX0_roots_1 22 rfl rfl)
theorem dX0_roots_45 : decode cX0_roots 45 = .ok (.bastore, 1) := dk_84 (dk_at dksX0_roots_1 23 rfl rfl)
theorem dX0_roots_46 : decode cX0_roots 46 = .ok (.iload 4, 2) := dk_21 4 (dk_at dksX0_roots_2 0 rfl rfl)
theorem dX0_roots_48 : decode cX0_roots 48 = .ok (.iconst 1, 1) := dk_4 (dk_at dksX0_roots_2 2 rfl rfl)
theorem dX0_roots_49 : decode cX0_roots 49 = .ok (.iadd, 1) := dk_96 (dk_at dksX0_roots_2 3 rfl rfl)
theorem dX0_roots_50 : decode cX0_roots 50 = .ok (.istore 6, 2) := dk_54 6 (dk_at dksX0_roots_2 4 rfl rfl)
theorem dX0_roots_52 : decode cX0_roots 52 = .ok (.iload 6, 2) := dk_21 6 (dk_at dksX0_roots_2 6 rfl rfl)
theorem dX0_roots_54 : decode cX0_roots 54 = .ok (.ifCond .lt 39, 3) := dk_155 0 39 (dk_at dksX0_roots_2 8 rfl rfl)
theorem dX0_roots_57 : decode cX0_roots 57 = .ok (.aload_n 2, 1) := dk_44 (dk_at dksX0_roots_2 11 rfl rfl)
theorem dX0_roots_58 : decode cX0_roots 58 = .ok (.iload 6, 2) := dk_21 6 (dk_at dksX0_roots_2 12 rfl rfl)
theorem dX0_roots_60 : decode cX0_roots 60 = .ok (.iload 6, 2) := dk_21 6 (dk_at dksX0_roots_2 14 rfl rfl)
theorem dX0_roots_62 : decode cX0_roots 62 = .ok (.ifCond .le 12, 3) := dk_158 0 12 (dk_at dksX0_roots_2 16 rfl rfl)
theorem dX0_roots_65 : decode cX0_roots 65 = .ok (.aload_n 2, 1) := dk_44 (dk_at dksX0_roots_2 19 rfl rfl)
theorem dX0_roots_66 : decode cX0_roots 66 = .ok (.iload 6, 2) := dk_21 6 (dk_at dksX0_roots_2 20 rfl rfl)
theorem dX0_roots_68 : decode cX0_roots 68 = .ok (.iconst 1, 1) := dk_4 (dk_at dksX0_roots_2 22 rfl rfl)
theorem dX0_roots_69 : decode cX0_roots 69 = .ok (.isub, 1) := dk_100 (dk_at dksX0_roots_2 23 rfl rfl)
theorem dX0_roots_70 : decode cX0_roots 70 = .ok (.iaload, 1) := dk_46 (dk_at dksX0_roots_3 0 rfl rfl)
theorem dX0_roots_71 : decode cX0_roots 71 = .ok (.goto 4, 3) := dk_167 0 4 (dk_at dksX0_roots_3 1 rfl rfl)
theorem dX0_roots_74 : decode cX0_roots 74 = .ok (.iconst 0, 1) := dk_3 (dk_at dksX0_roots_3 4 rfl rfl)
theorem dX0_roots_75 : decode cX0_roots 75 = .ok (.aload_n 0, 1) := dk_42 (dk_at dksX0_roots_3 5 rfl rfl)
theorem dX0_roots_76 : decode cX0_roots 76 = .ok (.iload 5, 2) := dk_21 5 (dk_at dksX0_roots_3 6 rfl rfl)
theorem dX0_roots_78 : decode cX0_roots 78 = .ok (.aload_n 2, 1) := dk_44 (dk_at dksX0_roots_3 8 rfl rfl)
theorem dX0_roots_79 : decode cX0_roots 79 = .ok (.iload 6, 2) := dk_21 6 (dk_at dksX0_roots_3 9 rfl rfl)
theorem dX0_roots_81 : decode cX0_roots 81 = .ok (.iaload, 1) := dk_46 (dk_at dksX0_roots_3 11 rfl rfl)
theorem dX0_roots_82 : decode cX0_roots 82 = .ok (.invokevirtual 20, 3) := dk_182 0 20 (dk_at dksX0_roots_3 12 rfl rfl)
theorem dX0_roots_85 : decode cX0_roots 85 = .ok (.ixor, 1) := dk_130 (dk_at dksX0_roots_3 15 rfl rfl)
theorem dX0_roots_86 : decode cX0_roots 86 = .ok (.iastore, 1) := dk_79 (dk_at dksX0_roots_3 16 rfl rfl)
theorem dX0_roots_87 : decode cX0_roots 87 = .ok (.iinc 6 (-1), 3) := dk_132 6 255 (dk_at dksX0_roots_3 17 rfl rfl)
theorem dX0_roots_90 : decode cX0_roots 90 = .ok (.goto (-38), 3) := dk_167 255 218 (dk_at dksX0_roots_3 20 rfl rfl)
theorem dX0_roots_93 : decode cX0_roots 93 = .ok (.iinc 4 1, 3) := dk_132 4 1 (dk_at dksX0_roots_4 0 rfl rfl)
theorem dX0_roots_96 : decode cX0_roots 96 = .ok (.goto (-78), 3) := dk_167 255 178 (dk_at dksX0_roots_4 3 rfl rfl)
theorem dX0_roots_99 : decode cX0_roots 99 = .ok (.iconst 0, 1) := dk_3 (dk_at dksX0_roots_4 6 rfl rfl)
theorem dX0_roots_100 : decode cX0_roots 100 = .ok (.istore 4, 2) := dk_54 4 (dk_at dksX0_roots_4 7 rfl rfl)
theorem dX0_roots_102 : decode cX0_roots 102 = .ok (.iload 4, 2) := dk_21 4 (dk_at dksX0_roots_4 9 rfl rfl)
theorem dX0_roots_104 : decode cX0_roots 104 = .ok (.sipush 256, 3) := dk_17 1 0 (dk_at dksX0_roots_4 11 rfl rfl)
theorem dX0_roots_107 : decode cX0_roots 107 = .ok (.if_icmp .ge 73, 3) := dk_162 0 73 (dk_at dksX0_roots_4 14 rfl rfl)
theorem dX0_roots_110 : decode cX0_roots 110 = .ok (.aload_n 0, 1) := dk_42 (dk_at dksX0_roots_4 17 rfl rfl)
theorem dX0_roots_111 : decode cX0_roots 111 = .ok (.aload_n 2, 1) := dk_44 (dk_at dksX0_roots_4 18 rfl rfl)
theorem dX0_roots_112 : decode cX0_roots 112 = .ok (.bipush 8, 2) := dk_16 8 (dk_at dksX0_roots_4 19 rfl rfl)
theorem dX0_roots_114 : decode cX0_roots 114 = .ok (.iaload, 1) := dk_46 (dk_at dksX0_roots_4 21 rfl rfl)
theorem dX0_roots_115 : decode cX0_roots 115 = .ok (.invokevirtual 38, 3) := dk_182 0 38 (dk_at dksX0_roots_5 0 rfl rfl)
theorem dX0_roots_118 : decode cX0_roots 118 = .ok (.istore 5, 2) := dk_54 5 (dk_at dksX0_roots_5 3 rfl rfl)
theorem dX0_roots_120 : decode cX0_roots 120 = .ok (.bipush 7, 2) := dk_16 7 (dk_at dksX0_roots_5 5 rfl rfl)
theorem dX0_roots_122 : decode cX0_roots 122 = .ok (.istore 6, 2) := dk_54 6 (dk_at dksX0_roots_5 7 rfl rfl)
theorem dX0_roots_124 : decode cX0_roots 124 = .ok (.iload 6, 2) := dk_21 6 (dk_at dksX0_roots_5 9 rfl rfl)
theorem dX0_roots_126 : decode cX0_roots 126 = .ok (.ifCond .lt 21, 3) := dk_155 0 21 (dk_at dksX0_roots_5 11 rfl rfl)
theorem dX0_roots_129 : decode cX0_roots 129 = .ok (.aload_n 0, 1) := dk_42 (dk_at dksX0_roots_5 14 rfl rfl)
theorem dX0_roots_130 : decode cX0_roots 130 = .ok (.iload 4, 2) := dk_21 4 (dk_at dksX0_roots_5 15 rfl rfl)
theorem dX0_roots_132 : decode cX0_roots 132 = .ok (.aload_n 2, 1) := dk_44 (dk_at dksX0_roots_5 17 rfl rfl)
theorem dX0_roots_133 : decode cX0_roots 133 = .ok (.iload 6, 2) := dk_21 6 (dk_at dksX0_roots_5 18 rfl rfl)
theorem dX0_roots_135 : decode cX0_roots 135 = .ok (.iaload, 1) := dk_46 (dk_at dksX0_roots_5 20 rfl rfl)
theorem dX0_roots_136 : decode cX0_roots 136 = .ok (.invokevirtual 41, 3) := dk_182 0 41 (dk_at dksX0_roots_5 21 rfl rfl)
theorem dX0_roots_139 : decode cX0_roots 139 = .ok (.istore 5, 2) := dk_54 5 (dk_at dksX0_roots_6 0 rfl rfl)
theorem dX0_roots_141 : decode cX0_roots 141 = .ok (.iinc 6 (-1), 3) := dk_132 6 255 (dk_at dksX0_roots_6 2 rfl rfl)
theorem dX0_roots_144 : decode cX0_roots 144 = .ok (.goto (-20), 3) := dk_167 255 236 (dk_at dksX0_roots_6 5 rfl rfl)
theorem dX0_roots_147 : decode cX0_roots 147 = .ok (.aload_n 2, 1) := dk_44 (dk_at dksX0_roots_6 8 rfl rfl)
theorem dX0_roots_148 : decode cX0_roots 148 = .ok (.bipush 8, 2) := dk_16 8 (dk_at dksX0_roots_6 9 rfl rfl)
theorem dX0_roots_150 : decode cX0_roots 150 = .ok (.iaload, 1) := dk_46 (dk_at dksX0_roots_6 11 rfl rfl)
theorem dX0_roots_151 : decode cX0_roots 151 = .ok (.iconst 1, 1) := dk_4 (dk_at dksX0_roots_6 12 rfl rfl)
theorem dX0_roots_152 : decode cX0_roots 152 = .ok (.if_icmp .ne 20, 3) := dk_160 0 20 (dk_at dksX0_roots_6 13 rfl rfl)
theorem dX0_roots_155 : decode cX0_roots 155 = .ok (.iload 5, 2) := dk_21 5 (dk_at dksX0_roots_6 16 rfl rfl)
theorem dX0_roots_157 : decode cX0_roots 157 = .ok (.ifCond .ne 7, 3) := dk_154 0 7 (dk_at dksX0_roots_6 18 rfl rfl)
theorem dX0_roots_160 : decode cX0_roots 160 = .ok (.iconst 1, 1) := dk_4 (dk_at dksX0_roots_6 21 rfl rfl)
theorem dX0_roots_161 : decode cX0_roots 161 = .ok (.goto 4, 3) := dk_167 0 4 (dk_at dksX0_roots_7 0 rfl rfl)
theorem dX0_roots_164 : decode cX0_roots 164 = .ok (.iconst 0, 1) := dk_3 (dk_at dksX0_roots_7 3 rfl rfl)
theorem dX0_roots_165 : decode cX0_roots 165 = .ok (.aload_n 3, 1) := dk_45 (dk_at dksX0_roots_7 4 rfl rfl)
theorem dX0_roots_166 : decode cX0_roots 166 = .ok (.iload 4, 2) := dk_21 4 (dk_at dksX0_roots_7 5 rfl rfl)
theorem dX0_roots_168 : decode cX0_roots 168 = .ok (.baload, 1) := dk_51 (dk_at dksX0_roots_7 7 rfl rfl)
theorem dX0_roots_169 : decode cX0_roots 169 = .ok (.if_icmp .eq 5, 3) := dk_159 0 5 (dk_at dksX0_roots_7 8 rfl rfl)
theorem dX0_roots_172 : decode cX0_roots 172 = .ok (.iconst 0, 1) := dk_3 (dk_at dksX0_roots_7 11 rfl rfl)
theorem dX0_roots_173 : decode cX0_roots 173 = .ok (.ireturn, 1) := dk_172 (dk_at dksX0_roots_7 12 rfl rfl)
theorem dX0_roots_174 : decode cX0_roots 174 = .ok (.iinc 4 1, 3) := dk_132 4 1 (dk_at dksX0_roots_7 13 rfl rfl)
theorem dX0_roots_177 : decode cX0_roots 177 = .ok (.goto (-75), 3) := dk_167 255 181 (dk_at dksX0_roots_7 16 rfl rfl)
theorem dX0_roots_180 : decode cX0_roots 180 = .ok (.iconst 1, 1) := dk_4 (dk_at dksX0_roots_7 19 rfl rfl)
theorem dX0_roots_181 : decode cX0_roots 181 = .ok (.ireturn, 1) := dk_172 (dk_at dksX0_roots_7 20 rfl rfl)
theorem q0 : (Jvm.Cond.initialized "ByteFieldLaw") ∈ lw_all := lw_g (lw_at lw_m0 0 rfl) rfl
theorem q3 : (Jvm.Cond.classLink "ByteFieldLaw" (13 : Nat) "ByteField") ∈ lw_all := lw_g (lw_at lw_m0 3 rfl) rfl
theorem q5 : (Jvm.Cond.methodLink "ByteFieldLaw" (15 : Nat) ({ cls := "ByteField", name := "<init>", desc := "()V" } : Jvm.MethodName)) ∈ lw_all := lw_g (lw_at lw_m0 5 rfl) rfl
theorem q15 : (Jvm.Cond.methodLink "ByteFieldLaw" (20 : Nat) ({ cls := "ByteField", name := "times", desc := "(II)I" } : Jvm.MethodName)) ∈ lw_all := lw_g (lw_at lw_m0 15 rfl) rfl
theorem q25 : (Jvm.Cond.methodLink "ByteFieldLaw" (23 : Nat) ({ cls := "ByteField", name := "timesThree", desc := "(III)I" } : Jvm.MethodName)) ∈ lw_all := lw_g (lw_at lw_m0 25 rfl) rfl
theorem q33 : (Jvm.Cond.methodLink "ByteFieldLaw" (27 : Nat) ({ cls := "ByteField", name := "square", desc := "(I)I" } : Jvm.MethodName)) ∈ lw_all := lw_g (lw_at lw_m0 33 rfl) rfl
theorem q40 : (Jvm.Cond.methodLink "ByteFieldLaw" (31 : Nat) ({ cls := "ByteField", name := "inverse", desc := "(I)I" } : Jvm.MethodName)) ∈ lw_all := lw_g (lw_at lw_m0 40 rfl) rfl
theorem q48 : (Jvm.Cond.methodLink "ByteFieldLaw" (35 : Nat) ({ cls := "ByteField", name := "divide", desc := "(II)I" } : Jvm.MethodName)) ∈ lw_all := lw_g (lw_at lw_m0 48 rfl) rfl
theorem q56 : (Jvm.Cond.methodLink "ByteFieldLaw" (38 : Nat) ({ cls := "ByteField", name := "hold", desc := "(I)I" } : Jvm.MethodName)) ∈ lw_all := lw_g (lw_at lw_m0 56 rfl) rfl
theorem q60 : (Jvm.Cond.methodLink "ByteFieldLaw" (41 : Nat) ({ cls := "ByteField", name := "fold", desc := "(II)I" } : Jvm.MethodName)) ∈ lw_all := lw_g (lw_at lw_m0 60 rfl) rfl
theorem q64 : (Jvm.Cond.methodLink "ByteFieldLaw" (44 : Nat) ({ cls := "ByteField", name := "power", desc := "(I)I" } : Jvm.MethodName)) ∈ lw_all := lw_g (lw_at lw_m0 64 rfl) rfl
theorem q68 : (Jvm.Cond.methodLink "ByteFieldLaw" (16 : Nat) ({ cls := "ByteFieldLaw", name := "cell", desc := "([II)I" } : Jvm.MethodName)) ∈ lw_all := lw_g (lw_at lw_m0 68 rfl) rfl
theorem q69 : (Jvm.Cond.static ({ cls := "ByteFieldLaw", name := "cell", desc := "([II)I" } : Jvm.MethodName)) ∈ lw_all := lw_g (lw_at lw_m0 69 rfl) rfl
theorem q70 : (Jvm.Cond.code ({ cls := "ByteFieldLaw", name := "cell", desc := "([II)I" } : Jvm.MethodName) method_2_code (2 : Nat) (Option.some Jvm.ClassFile.FieldType.int)) ∈ lw_all := lw_g (lw_at lw_m0 70 rfl) rfl
theorem q71 : (Jvm.Cond.methodLink "ByteFieldLaw" (7 : Nat) ({ cls := "ByteFieldLaw", name := "product", desc := "(II)I" } : Jvm.MethodName)) ∈ lw_all := lw_g (lw_at lw_m0 71 rfl) rfl
theorem q72 : (Jvm.Cond.static ({ cls := "ByteFieldLaw", name := "product", desc := "(II)I" } : Jvm.MethodName)) ∈ lw_all := lw_g (lw_at lw_m0 72 rfl) rfl
theorem q73 : (Jvm.Cond.code ({ cls := "ByteFieldLaw", name := "product", desc := "(II)I" } : Jvm.MethodName) method_3_code (5 : Nat) (Option.some Jvm.ClassFile.FieldType.int)) ∈ lw_all := lw_g (lw_at lw_m0 73 rfl) rfl
theorem q74 : (Jvm.Cond.methodLink "ByteFieldLaw" (34 : Nat) ({ cls := "ByteFieldLaw", name := "inverse", desc := "(I)I" } : Jvm.MethodName)) ∈ lw_all := lw_g (lw_at lw_m0 74 rfl) rfl
theorem q75 : (Jvm.Cond.static ({ cls := "ByteFieldLaw", name := "inverse", desc := "(I)I" } : Jvm.MethodName)) ∈ lw_all := lw_g (lw_at lw_m0 75 rfl) rfl
theorem q76 : (Jvm.Cond.code ({ cls := "ByteFieldLaw", name := "inverse", desc := "(I)I" } : Jvm.MethodName) method_4_code (2 : Nat) (Option.some Jvm.ClassFile.FieldType.int)) ∈ lw_all := lw_g (lw_at lw_m0 76 rfl) rfl
theorem q77 : (Jvm.Cond.methodLink "ByteFieldLaw" (47 : Nat) ({ cls := "ByteFieldLaw", name := "power", desc := "(II)I" } : Jvm.MethodName)) ∈ lw_all := lw_g (lw_at lw_m0 77 rfl) rfl
theorem q78 : (Jvm.Cond.static ({ cls := "ByteFieldLaw", name := "power", desc := "(II)I" } : Jvm.MethodName)) ∈ lw_all := lw_g (lw_at lw_m0 78 rfl) rfl
theorem q79 : (Jvm.Cond.code ({ cls := "ByteFieldLaw", name := "power", desc := "(II)I" } : Jvm.MethodName) method_5_code (4 : Nat) (Option.some Jvm.ClassFile.FieldType.int)) ∈ lw_all := lw_g (lw_at lw_m0 79 rfl) rfl
theorem q80 : (Jvm.Cond.methodLink "ByteFieldLaw" (49 : Nat) ({ cls := "ByteFieldLaw", name := "field", desc := "(LByteField;II)Z" } : Jvm.MethodName)) ∈ lw_all := lw_g (lw_at lw_m0 80 rfl) rfl
theorem q81 : (Jvm.Cond.static ({ cls := "ByteFieldLaw", name := "field", desc := "(LByteField;II)Z" } : Jvm.MethodName)) ∈ lw_all := lw_g (lw_at lw_m0 81 rfl) rfl
theorem q82 : (Jvm.Cond.code ({ cls := "ByteFieldLaw", name := "field", desc := "(LByteField;II)Z" } : Jvm.MethodName) method_7_code (7 : Nat) (Option.some Jvm.ClassFile.FieldType.boolean)) ∈ lw_all := lw_g (lw_at lw_m0 82 rfl) rfl
theorem q84 : (Jvm.Cond.methodLink "ByteFieldLaw" (53 : Nat) ({ cls := "ByteFieldLaw", name := "roots", desc := "(LByteField;[I)Z" } : Jvm.MethodName)) ∈ lw_all := lw_g (lw_at lw_m0 84 rfl) rfl
theorem q85 : (Jvm.Cond.static ({ cls := "ByteFieldLaw", name := "roots", desc := "(LByteField;[I)Z" } : Jvm.MethodName)) ∈ lw_all := lw_g (lw_at lw_m0 85 rfl) rfl
theorem q86 : (Jvm.Cond.code ({ cls := "ByteFieldLaw", name := "roots", desc := "(LByteField;[I)Z" } : Jvm.MethodName) method_8_code (7 : Nat) (Option.some Jvm.ClassFile.FieldType.boolean)) ∈ lw_all := lw_g (lw_at lw_m0 86 rfl) rfl
/-! the law's own entry -/
set_option maxRecDepth 100000
abbrev cL_law : ByteArray := code
def dkwL_law_14 : List UInt8 := [17, 0, 255, 126, 184, 0, 49, 153, 0, 15, 43, 42, 184, 0, 53, 153, 0, 7, 4, 167, 0, 4, 3, 172]
abbrev dktL_law_14 : List UInt8 := dkwL_law_14 ++ []
def dkwL_law_13 : List UInt8 := [43, 3, 182, 0, 44, 4, 160, 0, 40, 43, 42, 5, 184, 0, 16, 17, 0, 255, 126, 42, 6, 184, 0, 16]
abbrev dktL_law_13 : List UInt8 := dkwL_law_13 ++ dktL_law_14
def dkwL_law_12 : List UInt8 := [21, 9, 21, 10, 159, 0, 5, 3, 172, 132, 3, 4, 167, 254, 214, 43, 4, 182, 0, 44, 28, 160, 0, 49]
abbrev dktL_law_12 : List UInt8 := dkwL_law_12 ++ dktL_law_13
def dkwL_law_11 : List UInt8 := [61, 28, 54, 10, 167, 0, 19, 43, 21, 4, 182, 0, 44, 54, 9, 28, 21, 7, 184, 0, 47, 54, 10]
abbrev dktL_law_11 : List UInt8 := dkwL_law_11 ++ dktL_law_12
def dkwL_law_10 : List UInt8 := [54, 10, 167, 0, 45, 43, 21, 4, 21, 5, 182, 0, 41, 54, 9, 28, 21, 7, 184, 0, 7, 21, 8, 130]
abbrev dktL_law_10 : List UInt8 := dkwL_law_10 ++ dktL_law_11
def dkwL_law_9 : List UInt8 := [184, 0, 34, 184, 0, 7, 54, 10, 167, 0, 62, 43, 21, 4, 182, 0, 38, 54, 9, 21, 7, 61, 28]
abbrev dktL_law_9 : List UInt8 := dkwL_law_9 ++ dktL_law_10
def dkwL_law_8 : List UInt8 := [21, 4, 21, 5, 182, 0, 35, 54, 9, 21, 8, 154, 0, 7, 2, 167, 0, 13, 21, 7, 21, 8]
abbrev dktL_law_8 : List UInt8 := dkwL_law_8 ++ dktL_law_9
def dkwL_law_7 : List UInt8 := [54, 10, 167, 0, 114, 43, 21, 4, 182, 0, 31, 54, 9, 21, 7, 184, 0, 34, 54, 10, 167, 0, 96, 43]
abbrev dktL_law_7 : List UInt8 := dkwL_law_7 ++ dktL_law_8
def dkwL_law_6 : List UInt8 := [184, 0, 7, 54, 10, 167, 0, 134, 43, 21, 4, 182, 0, 27, 54, 9, 21, 7, 21, 7, 184, 0, 7]
abbrev dktL_law_6 : List UInt8 := dkwL_law_6 ++ dktL_law_7
def dkwL_law_5 : List UInt8 := [21, 4, 21, 5, 21, 6, 182, 0, 23, 54, 9, 21, 7, 21, 8, 184, 0, 7, 21, 6, 17, 0, 255, 126]
abbrev dktL_law_5 : List UInt8 := dkwL_law_5 ++ dktL_law_6
def dkwL_law_4 : List UInt8 := [43, 21, 4, 21, 5, 182, 0, 20, 54, 9, 21, 7, 21, 8, 184, 0, 7, 54, 10, 167, 0, 167, 43]
abbrev dktL_law_4 : List UInt8 := dkwL_law_4 ++ dktL_law_5
def dkwL_law_3 : List UInt8 := [170, 0, 0, 0, 0, 0, 213, 0, 0, 0, 0, 0, 0, 0, 6, 0, 0, 0, 43, 0, 0, 0, 65, 0, 0, 0, 98, 0, 0, 0, 118, 0, 0, 0, 136, 0, 0, 0, 170, 0, 0, 0, 187]
abbrev dktL_law_3 : List UInt8 := dkwL_law_3 ++ dktL_law_4
def dkwL_law_2 : List UInt8 := [21, 4, 17, 0, 255, 126, 54, 7, 21, 5, 17, 0, 255, 126, 54, 8, 42, 29, 184, 0, 16, 16, 7, 126]
abbrev dktL_law_2 : List UInt8 := dkwL_law_2 ++ dktL_law_3
def dkwL_law_1 : List UInt8 := [184, 0, 16, 54, 4, 42, 29, 5, 96, 184, 0, 16, 54, 5, 42, 29, 6, 96, 184, 0, 16, 54, 6]
abbrev dktL_law_1 : List UInt8 := dkwL_law_1 ++ dktL_law_2
def dkwL_law_0 : List UInt8 := [187, 0, 13, 89, 183, 0, 15, 76, 4, 61, 3, 62, 29, 16, 96, 162, 1, 42, 42, 29, 4, 96]
abbrev dktL_law_0 : List UInt8 := dkwL_law_0 ++ dktL_law_1
theorem dksL_law_0 : cL_law.data.toList.drop 0 = dktL_law_0 := by decide +kernel
theorem dksL_law_1 : cL_law.data.toList.drop 22 = dktL_law_1 := dk_seg dksL_law_0 22 rfl rfl
theorem dksL_law_2 : cL_law.data.toList.drop 45 = dktL_law_2 := dk_seg dksL_law_1 23 rfl rfl
theorem dksL_law_3 : cL_law.data.toList.drop 69 = dktL_law_3 := dk_seg dksL_law_2 24 rfl rfl
theorem dksL_law_4 : cL_law.data.toList.drop 112 = dktL_law_4 := dk_seg dksL_law_3 43 rfl rfl
theorem dksL_law_5 : cL_law.data.toList.drop 135 = dktL_law_5 := dk_seg dksL_law_4 23 rfl rfl
theorem dksL_law_6 : cL_law.data.toList.drop 159 = dktL_law_6 := dk_seg dksL_law_5 24 rfl rfl
theorem dksL_law_7 : cL_law.data.toList.drop 182 = dktL_law_7 := dk_seg dksL_law_6 23 rfl rfl
theorem dksL_law_8 : cL_law.data.toList.drop 206 = dktL_law_8 := dk_seg dksL_law_7 24 rfl rfl
theorem dksL_law_9 : cL_law.data.toList.drop 228 = dktL_law_9 := dk_seg dksL_law_8 22 rfl rfl
theorem dksL_law_10 : cL_law.data.toList.drop 251 = dktL_law_10 := dk_seg dksL_law_9 23 rfl rfl
theorem dksL_law_11 : cL_law.data.toList.drop 275 = dktL_law_11 := dk_seg dksL_law_10 24 rfl rfl
theorem dksL_law_12 : cL_law.data.toList.drop 298 = dktL_law_12 := dk_seg dksL_law_11 23 rfl rfl
theorem dksL_law_13 : cL_law.data.toList.drop 322 = dktL_law_13 := dk_seg dksL_law_12 24 rfl rfl
theorem dksL_law_14 : cL_law.data.toList.drop 346 = dktL_law_14 := dk_seg dksL_law_13 24 rfl rfl
theorem dL_law_0 : decode cL_law 0 = .ok (.new 13, 3) := dk_187 0 13 (dk_at dksL_law_0 0 rfl rfl)
theorem dL_law_3 : decode cL_law 3 = .ok (.dup, 1) := dk_89 (dk_at dksL_law_0 3 rfl rfl)
theorem dL_law_4 : decode cL_law 4 = .ok (.invokespecial 15, 3) := dk_183 0 15 (dk_at dksL_law_0 4 rfl rfl)
theorem dL_law_7 : decode cL_law 7 = .ok (.astore_n 1, 1) := dk_76 (dk_at dksL_law_0 7 rfl rfl)
theorem dL_law_8 : decode cL_law 8 = .ok (.iconst 1, 1) := dk_4 (dk_at dksL_law_0 8 rfl rfl)
theorem dL_law_9 : decode cL_law 9 = .ok (.istore_n 2, 1) := dk_61 (dk_at dksL_law_0 9 rfl rfl)
theorem dL_law_10 : decode cL_law 10 = .ok (.iconst 0, 1) := dk_3 (dk_at dksL_law_0 10 rfl rfl)
theorem dL_law_11 : decode cL_law 11 = .ok (.istore_n 3, 1) := dk_62 (dk_at dksL_law_0 11 rfl rfl)
theorem dL_law_12 : decode cL_law 12 = .ok (.iload_n 3, 1) := dk_29 (dk_at dksL_law_0 12 rfl rfl)
theorem dL_law_13 : decode cL_law 13 = .ok (.bipush 96, 2) := dk_16 96 (dk_at dksL_law_0 13 rfl rfl)
theorem dL_law_15 : decode cL_law 15 = .ok (.if_icmp .ge 298, 3) := dk_162 1 42 (dk_at dksL_law_0 15 rfl rfl)
theorem dL_law_18 : decode cL_law 18 = .ok (.aload_n 0, 1) := dk_42 (dk_at dksL_law_0 18 rfl rfl)
theorem dL_law_19 : decode cL_law 19 = .ok (.iload_n 3, 1) := dk_29 (dk_at dksL_law_0 19 rfl rfl)
theorem dL_law_20 : decode cL_law 20 = .ok (.iconst 1, 1) := dk_4 (dk_at dksL_law_0 20 rfl rfl)
theorem dL_law_21 : decode cL_law 21 = .ok (.iadd, 1) := dk_96 (dk_at dksL_law_0 21 rfl rfl)
theorem dL_law_22 : decode cL_law 22 = .ok (.invokestatic 16, 3) := dk_184 0 16 (dk_at dksL_law_1 0 rfl rfl)
theorem dL_law_25 : decode cL_law 25 = .ok (.istore 4, 2) := dk_54 4 (dk_at dksL_law_1 3 rfl rfl)
theorem dL_law_27 : decode cL_law 27 = .ok (.aload_n 0, 1) := dk_42 (dk_at dksL_law_1 5 rfl rfl)
theorem dL_law_28 : decode cL_law 28 = .ok (.iload_n 3, 1) := dk_29 (dk_at dksL_law_1 6 rfl rfl)
theorem dL_law_29 : decode cL_law 29 = .ok (.iconst 2, 1) := dk_5 (dk_at dksL_law_1 7 rfl rfl)
theorem dL_law_30 : decode cL_law 30 = .ok (.iadd, 1) := dk_96 (dk_at dksL_law_1 8 rfl rfl)
theorem dL_law_31 : decode cL_law 31 = .ok (.invokestatic 16, 3) := dk_184 0 16 (dk_at dksL_law_1 9 rfl rfl)
theorem dL_law_34 : decode cL_law 34 = .ok (.istore 5, 2) := dk_54 5 (dk_at dksL_law_1 12 rfl rfl)
theorem dL_law_36 : decode cL_law 36 = .ok (.aload_n 0, 1) := dk_42 (dk_at dksL_law_1 14 rfl rfl)
theorem dL_law_37 : decode cL_law 37 = .ok (.iload_n 3, 1) := dk_29 (dk_at dksL_law_1 15 rfl rfl)
theorem dL_law_38 : decode cL_law 38 = .ok (.iconst 3, 1) := dk_6 (dk_at dksL_law_1 16 rfl rfl)
theorem dL_law_39 : decode cL_law 39 = .ok (.iadd, 1) := dk_96 (dk_at dksL_law_1 17 rfl rfl)
theorem dL_law_40 : decode cL_law 40 = .ok (.invokestatic 16, 3) := dk_184 0 16 (dk_at dksL_law_1 18 rfl rfl)
theorem dL_law_43 : decode cL_law 43 = .ok (.istore 6, 2) := dk_54 6 (dk_at dksL_law_1 21 rfl rfl)
theorem dL_law_45 : decode cL_law 45 = .ok (.iload 4, 2) := dk_21 4 (dk_at dksL_law_2 0 rfl rfl)
theorem dL_law_47 : decode cL_law 47 = .ok (.sipush 255, 3) := dk_17 0 255 (dk_at dksL_law_2 2 rfl rfl)
theorem dL_law_50 : decode cL_law 50 = .ok (.iand, 1) := dk_126 (dk_at dksL_law_2 5 rfl rfl)
theorem dL_law_51 : decode cL_law 51 = .ok (.istore 7, 2) := dk_54 7 (dk_at dksL_law_2 6 rfl rfl)
theorem dL_law_53 : decode cL_law 53 = .ok (.iload 5, 2) := dk_21 5 (dk_at dksL_law_2 8 rfl rfl)
theorem dL_law_55 : decode cL_law 55 = .ok (.sipush 255, 3) := dk_17 0 255 (dk_at dksL_law_2 10 rfl rfl)
theorem dL_law_58 : decode cL_law 58 = .ok (.iand, 1) := dk_126 (dk_at dksL_law_2 13 rfl rfl)
theorem dL_law_59 : decode cL_law 59 = .ok (.istore 8, 2) := dk_54 8 (dk_at dksL_law_2 14 rfl rfl)
theorem dL_law_61 : decode cL_law 61 = .ok (.aload_n 0, 1) := dk_42 (dk_at dksL_law_2 16 rfl rfl)
theorem dL_law_62 : decode cL_law 62 = .ok (.iload_n 3, 1) := dk_29 (dk_at dksL_law_2 17 rfl rfl)
theorem dL_law_63 : decode cL_law 63 = .ok (.invokestatic 16, 3) := dk_184 0 16 (dk_at dksL_law_2 18 rfl rfl)
theorem dL_law_66 : decode cL_law 66 = .ok (.bipush 7, 2) := dk_16 7 (dk_at dksL_law_2 21 rfl rfl)
theorem dL_law_68 : decode cL_law 68 = .ok (.iand, 1) := dk_126 (dk_at dksL_law_2 23 rfl rfl)
theorem dL_law_69 : decode cL_law 69 = .ok (.tableswitch 213 0 6 #[43, 65, 98, 118, 136, 170, 187], 43) := by decide +kernel
theorem dL_law_112 : decode cL_law 112 = .ok (.aload_n 1, 1) := dk_43 (dk_at dksL_law_4 0 rfl rfl)
theorem dL_law_113 : decode cL_law 113 = .ok (.iload 4, 2) := dk_21 4 (dk_at dksL_law_4 1 rfl rfl)
theorem dL_law_115 : decode cL_law 115 = .ok (.iload 5, 2) := dk_21 5 (dk_at dksL_law_4 3 rfl rfl)
theorem dL_law_117 : decode cL_law 117 = .ok (.invokevirtual 20, 3) := dk_182 0 20 (dk_at dksL_law_4 5 rfl rfl)
theorem dL_law_120 : decode cL_law 120 = .ok (.istore 9, 2) := dk_54 9 (dk_at dksL_law_4 8 rfl rfl)
theorem dL_law_122 : decode cL_law 122 = .ok (.iload 7, 2) := dk_21 7 (dk_at dksL_law_4 10 rfl rfl)
theorem dL_law_124 : decode cL_law 124 = .ok (.iload 8, 2) := dk_21 8 (dk_at dksL_law_4 12 rfl rfl)
theorem dL_law_126 : decode cL_law 126 = .ok (.invokestatic 7, 3) := dk_184 0 7 (dk_at dksL_law_4 14 rfl rfl)
theorem dL_law_129 : decode cL_law 129 = .ok (.istore 10, 2) := dk_54 10 (dk_at dksL_law_4 17 rfl rfl)
theorem dL_law_131 : decode cL_law 131 = .ok (.goto 167, 3) := dk_167 0 167 (dk_at dksL_law_4 19 rfl rfl)
theorem dL_law_134 : decode cL_law 134 = .ok (.aload_n 1, 1) := dk_43 (dk_at dksL_law_4 22 rfl rfl)
theorem dL_law_135 : decode cL_law 135 = .ok (.iload 4, 2) := dk_21 4 (dk_at dksL_law_5 0 rfl rfl)
theorem dL_law_137 : decode cL_law 137 = .ok (.iload 5, 2) := dk_21 5 (dk_at dksL_law_5 2 rfl rfl)
theorem dL_law_139 : decode cL_law 139 = .ok (.iload 6, 2) := dk_21 6 (dk_at dksL_law_5 4 rfl rfl)
theorem dL_law_141 : decode cL_law 141 = .ok (.invokevirtual 23, 3) := dk_182 0 23 (dk_at dksL_law_5 6 rfl rfl)
theorem dL_law_144 : decode cL_law 144 = .ok (.istore 9, 2) := dk_54 9 (dk_at dksL_law_5 9 rfl rfl)
theorem dL_law_146 : decode cL_law 146 = .ok (.iload 7, 2) := dk_21 7 (dk_at dksL_law_5 11 rfl rfl)
theorem dL_law_148 : decode cL_law 148 = .ok (.iload 8, 2) := dk_21 8 (dk_at dksL_law_5 13 rfl rfl)
theorem dL_law_150 : decode cL_law 150 = .ok (.invokestatic 7, 3) := dk_184 0 7 (dk_at dksL_law_5 15 rfl rfl)
theorem dL_law_153 : decode cL_law 153 = .ok (.iload 6, 2) := dk_21 6 (dk_at dksL_law_5 18 rfl rfl)
theorem dL_law_155 : decode cL_law 155 = .ok (.sipush 255, 3) := dk_17 0 255 (dk_at dksL_law_5 20 rfl rfl)
theorem dL_law_158 : decode cL_law 158 = .ok (.iand, 1) := dk_126 (dk_at dksL_law_5 23 rfl rfl)
theorem dL_law_159 : decode cL_law 159 = .ok (.invokestatic 7, 3) := dk_184 0 7 (dk_at dksL_law_6 0 rfl rfl)
theorem dL_law_162 : decode cL_law 162 = .ok (.istore 10, 2) := dk_54 10 (dk_at dksL_law_6 3 rfl rfl)
theorem dL_law_164 : decode cL_law 164 = .ok (.goto 134, 3) := dk_167 0 134 (dk_at dksL_law_6 5 rfl rfl)
theorem dL_law_167 : decode cL_law 167 = .ok (.aload_n 1, 1) := dk_43 (dk_at dksL_law_6 8 rfl rfl)
theorem dL_law_168 : decode cL_law 168 = .ok (.iload 4, 2) := dk_21 4 (dk_at dksL_law_6 9 rfl rfl)
theorem dL_law_170 : decode cL_law 170 = .ok (.invokevirtual 27, 3) := dk_182 0 27 (dk_at dksL_law_6 11 rfl rfl)
theorem dL_law_173 : decode cL_law 173 = .ok (.istore 9, 2) := dk_54 9 (dk_at dksL_law_6 14 rfl rfl)
theorem dL_law_175 : decode cL_law 175 = .ok (.iload 7, 2) := dk_21 7 (dk_at dksL_law_6 16 rfl rfl)
theorem dL_law_177 : decode cL_law 177 = .ok (.iload 7, 2) := dk_21 7 (dk_at dksL_law_6 18 rfl rfl)
theorem dL_law_179 : decode cL_law 179 = .ok (.invokestatic 7, 3) := dk_184 0 7 (dk_at dksL_law_6 20 rfl rfl)
theorem dL_law_182 : decode cL_law 182 = .ok (.istore 10, 2) := dk_54 10 (dk_at dksL_law_7 0 rfl rfl)
theorem dL_law_184 : decode cL_law 184 = .ok (.goto 114, 3) := dk_167 0 114 (dk_at dksL_law_7 2 rfl rfl)
theorem dL_law_187 : decode cL_law 187 = .ok (.aload_n 1, 1) := dk_43 (dk_at dksL_law_7 5 rfl rfl)
theorem dL_law_188 : decode cL_law 188 = .ok (.iload 4, 2) := dk_21 4 (dk_at dksL_law_7 6 rfl rfl)
theorem dL_law_190 : decode cL_law 190 = .ok (.invokevirtual 31, 3) := dk_182 0 31 (dk_at dksL_law_7 8 rfl rfl)
theorem dL_law_193 : decode cL_law 193 = .ok (.istore 9, 2) := dk_54 9 (dk_at dksL_law_7 11 rfl rfl)
theorem dL_law_195 : decode cL_law 195 = .ok (.iload 7, 2) := dk_21 7 (dk_at dksL_law_7 13 rfl rfl)
theorem dL_law_197 : decode cL_law 197 = .ok (.invokestatic 34, 3) := dk_184 0 34 (dk_at dksL_law_7 15 rfl rfl)
theorem dL_law_200 : decode cL_law 200 = .ok (.istore 10, 2) := dk_54 10 (dk_at dksL_law_7 18 rfl rfl)
theorem dL_law_202 : decode cL_law 202 = .ok (.goto 96, 3) := dk_167 0 96 (dk_at dksL_law_7 20 rfl rfl)
theorem dL_law_205 : decode cL_law 205 = .ok (.aload_n 1, 1) := dk_43 (dk_at dksL_law_7 23 rfl rfl)
theorem dL_law_206 : decode cL_law 206 = .ok (.iload 4, 2) := dk_21 4 (dk_at dksL_law_8 0 rfl rfl)
theorem dL_law_208 : decode cL_law 208 = .ok (.iload 5, 2) := dk_21 5 (dk_at dksL_law_8 2 rfl rfl)
theorem dL_law_210 : decode cL_law 210 = .ok (.invokevirtual 35, 3) := dk_182 0 35 (dk_at dksL_law_8 4 rfl rfl)
theorem dL_law_213 : decode cL_law 213 = .ok (.istore 9, 2) := dk_54 9 (dk_at dksL_law_8 7 rfl rfl)
theorem dL_law_215 : decode cL_law 215 = .ok (.iload 8, 2) := dk_21 8 (dk_at dksL_law_8 9 rfl rfl)
theorem dL_law_217 : decode cL_law 217 = .ok (.ifCond .ne 7, 3) := dk_154 0 7 (dk_at dksL_law_8 11 rfl rfl)
theorem dL_law_220 : decode cL_law 220 = .ok (.iconst (-1), 1) := dk_2 (dk_at dksL_law_8 14 rfl rfl)
theorem dL_law_221 : decode cL_law 221 = .ok (.goto 13, 3) := dk_167 0 13 (dk_at dksL_law_8 15 rfl rfl)
theorem dL_law_224 : decode cL_law 224 = .ok (.iload 7, 2) := dk_21 7 (dk_at dksL_law_8 18 rfl rfl)
theorem dL_law_226 : decode cL_law 226 = .ok (.iload 8, 2) := dk_21 8 (dk_at dksL_law_8 20 rfl rfl)
theorem dL_law_228 : decode cL_law 228 = .ok (.invokestatic 34, 3) := dk_184 0 34 (dk_at dksL_law_9 0 rfl rfl)
theorem dL_law_231 : decode cL_law 231 = .ok (.invokestatic 7, 3) := dk_184 0 7 (dk_at dksL_law_9 3 rfl rfl)
theorem dL_law_234 : decode cL_law 234 = .ok (.istore 10, 2) := dk_54 10 (dk_at dksL_law_9 6 rfl rfl)
theorem dL_law_236 : decode cL_law 236 = .ok (.goto 62, 3) := dk_167 0 62 (dk_at dksL_law_9 8 rfl rfl)
theorem dL_law_239 : decode cL_law 239 = .ok (.aload_n 1, 1) := dk_43 (dk_at dksL_law_9 11 rfl rfl)
theorem dL_law_240 : decode cL_law 240 = .ok (.iload 4, 2) := dk_21 4 (dk_at dksL_law_9 12 rfl rfl)
theorem dL_law_242 : decode cL_law 242 = .ok (.invokevirtual 38, 3) := dk_182 0 38 (dk_at dksL_law_9 14 rfl rfl)
theorem dL_law_245 : decode cL_law 245 = .ok (.istore 9, 2) := dk_54 9 (dk_at dksL_law_9 17 rfl rfl)
theorem dL_law_247 : decode cL_law 247 = .ok (.iload 7, 2) := dk_21 7 (dk_at dksL_law_9 19 rfl rfl)
theorem dL_law_249 : decode cL_law 249 = .ok (.istore_n 2, 1) := dk_61 (dk_at dksL_law_9 21 rfl rfl)
theorem dL_law_250 : decode cL_law 250 = .ok (.iload_n 2, 1) := dk_28 (dk_at dksL_law_9 22 rfl rfl)
theorem dL_law_251 : decode cL_law 251 = .ok (.istore 10, 2) := dk_54 10 (dk_at dksL_law_10 0 rfl rfl)
theorem dL_law_253 : decode cL_law 253 = .ok (.goto 45, 3) := dk_167 0 45 (dk_at dksL_law_10 2 rfl rfl)
theorem dL_law_256 : decode cL_law 256 = .ok (.aload_n 1, 1) := dk_43 (dk_at dksL_law_10 5 rfl rfl)
theorem dL_law_257 : decode cL_law 257 = .ok (.iload 4, 2) := dk_21 4 (dk_at dksL_law_10 6 rfl rfl)
theorem dL_law_259 : decode cL_law 259 = .ok (.iload 5, 2) := dk_21 5 (dk_at dksL_law_10 8 rfl rfl)
theorem dL_law_261 : decode cL_law 261 = .ok (.invokevirtual 41, 3) := dk_182 0 41 (dk_at dksL_law_10 10 rfl rfl)
theorem dL_law_264 : decode cL_law 264 = .ok (.istore 9, 2) := dk_54 9 (dk_at dksL_law_10 13 rfl rfl)
theorem dL_law_266 : decode cL_law 266 = .ok (.iload_n 2, 1) := dk_28 (dk_at dksL_law_10 15 rfl rfl)
theorem dL_law_267 : decode cL_law 267 = .ok (.iload 7, 2) := dk_21 7 (dk_at dksL_law_10 16 rfl rfl)
theorem dL_law_269 : decode cL_law 269 = .ok (.invokestatic 7, 3) := dk_184 0 7 (dk_at dksL_law_10 18 rfl rfl)
theorem dL_law_272 : decode cL_law 272 = .ok (.iload 8, 2) := dk_21 8 (dk_at dksL_law_10 21 rfl rfl)
theorem dL_law_274 : decode cL_law 274 = .ok (.ixor, 1) := dk_130 (dk_at dksL_law_10 23 rfl rfl)
theorem dL_law_275 : decode cL_law 275 = .ok (.istore_n 2, 1) := dk_61 (dk_at dksL_law_11 0 rfl rfl)
theorem dL_law_276 : decode cL_law 276 = .ok (.iload_n 2, 1) := dk_28 (dk_at dksL_law_11 1 rfl rfl)
theorem dL_law_277 : decode cL_law 277 = .ok (.istore 10, 2) := dk_54 10 (dk_at dksL_law_11 2 rfl rfl)
theorem dL_law_279 : decode cL_law 279 = .ok (.goto 19, 3) := dk_167 0 19 (dk_at dksL_law_11 4 rfl rfl)
theorem dL_law_282 : decode cL_law 282 = .ok (.aload_n 1, 1) := dk_43 (dk_at dksL_law_11 7 rfl rfl)
theorem dL_law_283 : decode cL_law 283 = .ok (.iload 4, 2) := dk_21 4 (dk_at dksL_law_11 8 rfl rfl)
theorem dL_law_285 : decode cL_law 285 = .ok (.invokevirtual 44, 3) := dk_182 0 44 (dk_at dksL_law_11 10 rfl rfl)
theorem dL_law_288 : decode cL_law 288 = .ok (.istore 9, 2) := dk_54 9 (dk_at dksL_law_11 13 rfl rfl)
theorem dL_law_290 : decode cL_law 290 = .ok (.iload_n 2, 1) := dk_28 (dk_at dksL_law_11 15 rfl rfl)
theorem dL_law_291 : decode cL_law 291 = .ok (.iload 7, 2) := dk_21 7 (dk_at dksL_law_11 16 rfl rfl)
theorem dL_law_293 : decode cL_law 293 = .ok (.invokestatic 47, 3) := dk_184 0 47 (dk_at dksL_law_11 18 rfl rfl)
theorem dL_law_296 : decode cL_law 296 = .ok (.istore 10, 2) := dk_54 10 (dk_at dksL_law_11 21 rfl rfl)
theorem dL_law_298 : decode cL_law 298 = .ok (.iload 9, 2) := dk_21 9 (dk_at dksL_law_12 0 rfl rfl)
theorem dL_law_300 : decode cL_law 300 = .ok (.iload 10, 2) := dk_21 10 (dk_at dksL_law_12 2 rfl rfl)
theorem dL_law_302 : decode cL_law 302 = .ok (.if_icmp .eq 5, 3) := dk_159 0 5 (dk_at dksL_law_12 4 rfl rfl)
theorem dL_law_305 : decode cL_law 305 = .ok (.iconst 0, 1) := dk_3 (dk_at dksL_law_12 7 rfl rfl)
theorem dL_law_306 : decode cL_law 306 = .ok (.ireturn, 1) := dk_172 (dk_at dksL_law_12 8 rfl rfl)
theorem dL_law_307 : decode cL_law 307 = .ok (.iinc 3 4, 3) := dk_132 3 4 (dk_at dksL_law_12 9 rfl rfl)
theorem dL_law_310 : decode cL_law 310 = .ok (.goto (-298), 3) := dk_167 254 214 (dk_at dksL_law_12 12 rfl rfl)
theorem dL_law_313 : decode cL_law 313 = .ok (.aload_n 1, 1) := dk_43 (dk_at dksL_law_12 15 rfl rfl)
theorem dL_law_314 : decode cL_law 314 = .ok (.iconst 1, 1) := dk_4 (dk_at dksL_law_12 16 rfl rfl)
theorem dL_law_315 : decode cL_law 315 = .ok (.invokevirtual 44, 3) := dk_182 0 44 (dk_at dksL_law_12 17 rfl rfl)
theorem dL_law_318 : decode cL_law 318 = .ok (.iload_n 2, 1) := dk_28 (dk_at dksL_law_12 20 rfl rfl)
theorem dL_law_319 : decode cL_law 319 = .ok (.if_icmp .ne 49, 3) := dk_160 0 49 (dk_at dksL_law_12 21 rfl rfl)
theorem dL_law_322 : decode cL_law 322 = .ok (.aload_n 1, 1) := dk_43 (dk_at dksL_law_13 0 rfl rfl)
theorem dL_law_323 : decode cL_law 323 = .ok (.iconst 0, 1) := dk_3 (dk_at dksL_law_13 1 rfl rfl)
theorem dL_law_324 : decode cL_law 324 = .ok (.invokevirtual 44, 3) := dk_182 0 44 (dk_at dksL_law_13 2 rfl rfl)
theorem dL_law_327 : decode cL_law 327 = .ok (.iconst 1, 1) := dk_4 (dk_at dksL_law_13 5 rfl rfl)
theorem dL_law_328 : decode cL_law 328 = .ok (.if_icmp .ne 40, 3) := dk_160 0 40 (dk_at dksL_law_13 6 rfl rfl)
theorem dL_law_331 : decode cL_law 331 = .ok (.aload_n 1, 1) := dk_43 (dk_at dksL_law_13 9 rfl rfl)
theorem dL_law_332 : decode cL_law 332 = .ok (.aload_n 0, 1) := dk_42 (dk_at dksL_law_13 10 rfl rfl)
theorem dL_law_333 : decode cL_law 333 = .ok (.iconst 2, 1) := dk_5 (dk_at dksL_law_13 11 rfl rfl)
theorem dL_law_334 : decode cL_law 334 = .ok (.invokestatic 16, 3) := dk_184 0 16 (dk_at dksL_law_13 12 rfl rfl)
theorem dL_law_337 : decode cL_law 337 = .ok (.sipush 255, 3) := dk_17 0 255 (dk_at dksL_law_13 15 rfl rfl)
theorem dL_law_340 : decode cL_law 340 = .ok (.iand, 1) := dk_126 (dk_at dksL_law_13 18 rfl rfl)
theorem dL_law_341 : decode cL_law 341 = .ok (.aload_n 0, 1) := dk_42 (dk_at dksL_law_13 19 rfl rfl)
theorem dL_law_342 : decode cL_law 342 = .ok (.iconst 3, 1) := dk_6 (dk_at dksL_law_13 20 rfl rfl)
theorem dL_law_343 : decode cL_law 343 = .ok (.invokestatic 16, 3) := dk_184 0 16 (dk_at dksL_law_13 21 rfl rfl)
theorem dL_law_346 : decode cL_law 346 = .ok (.sipush 255, 3) := dk_17 0 255 (dk_at dksL_law_14 0 rfl rfl)
theorem dL_law_349 : decode cL_law 349 = .ok (.iand, 1) := dk_126 (dk_at dksL_law_14 3 rfl rfl)
theorem dL_law_350 : decode cL_law 350 = .ok (.invokestatic 49, 3) := dk_184 0 49 (dk_at dksL_law_14 4 rfl rfl)
theorem dL_law_353 : decode cL_law 353 = .ok (.ifCond .eq 15, 3) := dk_153 0 15 (dk_at dksL_law_14 7 rfl rfl)
theorem dL_law_356 : decode cL_law 356 = .ok (.aload_n 1, 1) := dk_43 (dk_at dksL_law_14 10 rfl rfl)
theorem dL_law_357 : decode cL_law 357 = .ok (.aload_n 0, 1) := dk_42 (dk_at dksL_law_14 11 rfl rfl)
theorem dL_law_358 : decode cL_law 358 = .ok (.invokestatic 53, 3) := dk_184 0 53 (dk_at dksL_law_14 12 rfl rfl)
theorem dL_law_361 : decode cL_law 361 = .ok (.ifCond .eq 7, 3) := dk_153 0 7 (dk_at dksL_law_14 15 rfl rfl)
theorem dL_law_364 : decode cL_law 364 = .ok (.iconst 1, 1) := dk_4 (dk_at dksL_law_14 18 rfl rfl)
theorem dL_law_365 : decode cL_law 365 = .ok (.goto 4, 3) := dk_167 0 4 (dk_at dksL_law_14 19 rfl rfl)
theorem dL_law_368 : decode cL_law 368 = .ok (.iconst 0, 1) := dk_3 (dk_at dksL_law_14 22 rfl rfl)
theorem dL_law_369 : decode cL_law 369 = .ok (.ireturn, 1) := dk_172 (dk_at dksL_law_14 23 rfl rfl)
end
section
/-! THE FIELD IN PLAIN NUMBERS: elements are numbers below 256, addition is exclusive or. gf_mul: the class's multiplication (carry-less product, then the modulus taken out from bit 14 down); gf_ps: the law's own product -/
theorem gf_x4 (a b c d : Nat) : (a ^^^ b) ^^^ (c ^^^ d) = (a ^^^ c) ^^^ (b ^^^ d) := by ac_rfl
theorem gf_ite_x (p q : Bool) (s : Nat) : (if (p ^^ q) = true then s else 0) = (if p = true then s else 0) ^^^ (if q = true then s else 0) := by
  cases p <;> cases q <;> simp
/-- the carry-less product of a and the lowest n bits of b -/
def gf_cm (a b : Nat) : Nat → Nat
  | 0 => 0
  | n + 1 => gf_cm a b n ^^^ (if b.testBit n = true then a <<< n else 0)
/-- behind k steps of the reduction: bits 14, 13 .. are gone -/
def gf_rd (x : Nat) : Nat → Nat
  | 0 => x
  | k + 1 => gf_rd x k ^^^ (if (gf_rd x k).testBit (14 - k) = true then 285 <<< (6 - k) else 0)
def gf_mul (a b : Nat) : Nat := gf_rd (gf_cm a b 8) 7 % 256
theorem gf_cm_s (a b n : Nat) : gf_cm a b (n + 1) = gf_cm a b n ^^^ (if b.testBit n = true then a <<< n else 0) := rfl
theorem gf_rd_s (x k : Nat) : gf_rd x (k + 1) = gf_rd x k ^^^ (if (gf_rd x k).testBit (14 - k) = true then 285 <<< (6 - k) else 0) := rfl
theorem gf_cm_xl (a a' b n : Nat) : gf_cm (a ^^^ a') b n = gf_cm a b n ^^^ gf_cm a' b n := by
  induction n with
  | zero => simp [gf_cm]
  | succ n ih =>
    rw [gf_cm_s, gf_cm_s, gf_cm_s, ih]
    by_cases h : b.testBit n = true
    · simp only [if_pos h]
      rw [Nat.shiftLeft_xor_distrib]
      exact gf_x4 _ _ _ _
    · simp only [if_neg h, Nat.xor_zero]
theorem gf_cm_xr (a b b' n : Nat) : gf_cm a (b ^^^ b') n = gf_cm a b n ^^^ gf_cm a b' n := by
  induction n with
  | zero => simp [gf_cm]
  | succ n ih => rw [gf_cm_s, gf_cm_s, gf_cm_s, ih, Nat.testBit_xor, gf_ite_x, gf_x4]
theorem gf_rd_x (x y k : Nat) : gf_rd (x ^^^ y) k = gf_rd x k ^^^ gf_rd y k := by
  induction k with
  | zero => rfl
  | succ k ih => rw [gf_rd_s, gf_rd_s, gf_rd_s, ih, Nat.testBit_xor, gf_ite_x, gf_x4]
theorem gf_mod_x (x y : Nat) : (x ^^^ y) % 256 = x % 256 ^^^ y % 256 := Nat.xor_mod_two_pow (a := x) (b := y) (n := 8)
theorem gf_mul_xl (a a' b : Nat) : gf_mul (a ^^^ a') b = gf_mul a b ^^^ gf_mul a' b := by
  unfold gf_mul
  rw [gf_cm_xl, gf_rd_x, gf_mod_x]
theorem gf_mul_xr (a b b' : Nat) : gf_mul a (b ^^^ b') = gf_mul a b ^^^ gf_mul a b' := by
  unfold gf_mul
  rw [gf_cm_xr, gf_rd_x, gf_mod_x]
theorem gf_lt (a b : Nat) : gf_mul a b < 256 := Nat.mod_lt _ (by decide)
theorem gf_x_lt {a b : Nat} (ha : a < 256) (hb : b < 256) : a ^^^ b < 256 := Nat.xor_lt_two_pow (n := 8) ha hb
theorem gf_x_0 {a b : Nat} (h : a ^^^ b = 0) : a = b := by
  have h1 : (a ^^^ b) ^^^ b = 0 ^^^ b := by rw [h]
  rw [Nat.xor_assoc, Nat.xor_self, Nat.xor_zero, Nat.zero_xor] at h1
  exact h1
-- ===== sizes =====
theorem gf_shl_lt {a n : Nat} (ha : a < 256) (hn : n < 8) : a <<< n < 2 ^ 15 := by
  rw [Nat.shiftLeft_eq]
  have h1 : 2 ^ n ≤ 2 ^ 7 := Nat.pow_le_pow_right (by decide) (by omega)
  have h2 : a * 2 ^ n ≤ 255 * 2 ^ 7 := Nat.mul_le_mul (by omega) h1
  exact Nat.lt_of_le_of_lt h2 (by decide)
theorem gf_cm_lt {a : Nat} (ha : a < 256) (b : Nat) : ∀ n, n ≤ 8 → gf_cm a b n < 2 ^ 15 := by
  intro n
  induction n with
  | zero => intro _; exact (by decide : 0 < 2 ^ 15)
  | succ n ih =>
    intro hn
    rw [gf_cm_s]
    refine Nat.xor_lt_two_pow (ih (by omega)) ?_
    by_cases h : b.testBit n = true
    · rw [if_pos h]; exact gf_shl_lt ha (by omega)
    · rw [if_neg h]; decide
theorem gf_285 : ∀ k, k ≤ 6 → 285 <<< k < 2 ^ 15 := by decide +kernel
theorem gf_rd_lt {x : Nat} (hx : x < 2 ^ 15) : ∀ k, gf_rd x k < 2 ^ 15 := by
  intro k
  induction k with
  | zero => exact hx
  | succ k ih =>
    rw [gf_rd_s]
    refine Nat.xor_lt_two_pow ih ?_
    by_cases h : (gf_rd x k).testBit (14 - k) = true
    · rw [if_pos h]; exact gf_285 _ (by omega)
    · rw [if_neg h]; decide
-- ===== what is additive is known by its values at the eight powers of 2 =====
def gf_bits (a : Nat) : Nat → Nat
  | 0 => 0
  | n + 1 => gf_bits a n ^^^ (if a.testBit n = true then 2 ^ n else 0)
theorem gf_bits_s (a n : Nat) : gf_bits a (n + 1) = gf_bits a n ^^^ (if a.testBit n = true then 2 ^ n else 0) := rfl
theorem gf_bits_8 : ∀ a, a < 256 → gf_bits a 8 = a := by decide +kernel
theorem gf_add_0 {f : Nat → Nat} (hf : ∀ x y, f (x ^^^ y) = f x ^^^ f y) : f 0 = 0 := by
  have h := hf 0 0
  rw [Nat.xor_self (f 0)] at h
  exact h
theorem gf_lin {f g : Nat → Nat} (hf : ∀ x y, f (x ^^^ y) = f x ^^^ f y) (hg : ∀ x y, g (x ^^^ y) = g x ^^^ g y) (h : ∀ i, i < 8 → f (2 ^ i) = g (2 ^ i)) {a : Nat} (ha : a < 256) : f a = g a := by
  have key : ∀ n, n ≤ 8 → f (gf_bits a n) = g (gf_bits a n) := by
    intro n
    induction n with
    | zero => intro _; exact (gf_add_0 hf).trans (gf_add_0 hg).symm
    | succ n ih =>
      intro hn
      rw [gf_bits_s, hf, hg, ih (by omega)]
      by_cases hb : a.testBit n = true
      · rw [if_pos hb, h n (by omega)]
      · rw [if_neg hb, gf_add_0 hf, gf_add_0 hg]
  have h8 := key 8 (Nat.le_refl 8)
  rw [gf_bits_8 a ha] at h8
  exact h8
theorem gf_mul_0r (a : Nat) : gf_mul a 0 = 0 := gf_add_0 (f := fun y => gf_mul a y) (fun x y => gf_mul_xr a x y)
theorem gf_mul_0l (b : Nat) : gf_mul 0 b = 0 := gf_add_0 (f := fun x => gf_mul x b) (fun x y => gf_mul_xl x y b)
theorem gf_comm2 : ∀ i, i < 8 → ∀ j, j < 8 → gf_mul (2 ^ i) (2 ^ j) = gf_mul (2 ^ j) (2 ^ i) := by decide +kernel
theorem gf_comm {a b : Nat} (ha : a < 256) (hb : b < 256) : gf_mul a b = gf_mul b a :=
  gf_lin (f := fun x => gf_mul x b) (g := fun x => gf_mul b x) (fun x y => gf_mul_xl x y b) (fun x y => gf_mul_xr b x y)
    (fun i hi => gf_lin (f := fun y => gf_mul (2 ^ i) y) (g := fun y => gf_mul y (2 ^ i)) (fun x y => gf_mul_xr _ x y) (fun x y => gf_mul_xl x y _) (fun j hj => gf_comm2 i hi j hj) hb) ha
theorem gf_assoc3 : ∀ i, i < 8 → ∀ j, j < 8 → ∀ k, k < 8 → gf_mul (gf_mul (2 ^ i) (2 ^ j)) (2 ^ k) = gf_mul (2 ^ i) (gf_mul (2 ^ j) (2 ^ k)) := by decide +kernel
theorem gf_assoc {a b c : Nat} (ha : a < 256) (hb : b < 256) (hc : c < 256) : gf_mul (gf_mul a b) c = gf_mul a (gf_mul b c) := by
  refine gf_lin (f := fun x => gf_mul (gf_mul x b) c) (g := fun x => gf_mul x (gf_mul b c)) (fun x y => ?_) (fun x y => gf_mul_xl x y _) (fun i hi => ?_) ha
  · show gf_mul (gf_mul (x ^^^ y) b) c = gf_mul (gf_mul x b) c ^^^ gf_mul (gf_mul y b) c
    rw [gf_mul_xl, gf_mul_xl]
  · refine gf_lin (f := fun y => gf_mul (gf_mul (2 ^ i) y) c) (g := fun y => gf_mul (2 ^ i) (gf_mul y c)) (fun x y => ?_) (fun x y => ?_) (fun j hj => ?_) hb
    · show gf_mul (gf_mul (2 ^ i) (x ^^^ y)) c = gf_mul (gf_mul (2 ^ i) x) c ^^^ gf_mul (gf_mul (2 ^ i) y) c
      rw [gf_mul_xr, gf_mul_xl]
    · show gf_mul (2 ^ i) (gf_mul (x ^^^ y) c) = gf_mul (2 ^ i) (gf_mul x c) ^^^ gf_mul (2 ^ i) (gf_mul y c)
      rw [gf_mul_xl, gf_mul_xr]
    · refine gf_lin (f := fun z => gf_mul (gf_mul (2 ^ i) (2 ^ j)) z) (g := fun z => gf_mul (2 ^ i) (gf_mul (2 ^ j) z)) (fun x y => gf_mul_xr _ x y) (fun x y => ?_) (fun k hk => gf_assoc3 i hi j hj k hk) hc
      show gf_mul (2 ^ i) (gf_mul (2 ^ j) (x ^^^ y)) = gf_mul (2 ^ i) (gf_mul (2 ^ j) x) ^^^ gf_mul (2 ^ i) (gf_mul (2 ^ j) y)
      rw [gf_mul_xr, gf_mul_xr]
theorem gf_mul_1r : ∀ a, a < 256 → gf_mul a 1 = a := by decide +kernel
theorem gf_mul_1l {a : Nat} (ha : a < 256) : gf_mul 1 a = a := (gf_comm (by decide) ha).trans (gf_mul_1r a ha)
-- ===== squares, the inverse =====
def gf_s1 (a : Nat) : Nat := (a ||| a <<< 4) &&& 3855
def gf_s2 (a : Nat) : Nat := (a ||| a <<< 2) &&& 13107
def gf_s3 (a : Nat) : Nat := (a ||| a <<< 1) &&& 21845
def gf_sqr (a : Nat) : Nat := gf_rd (gf_s3 (gf_s2 (gf_s1 a))) 7 % 256
theorem gf_sqr_eq : ∀ a, a < 256 → gf_sqr a = gf_mul a a := by decide +kernel
theorem gf_sqr_lt (a : Nat) : gf_sqr a < 256 := Nat.mod_lt _ (by decide)
theorem gf_sqr_x {a b : Nat} (ha : a < 256) (hb : b < 256) : gf_sqr (a ^^^ b) = gf_sqr a ^^^ gf_sqr b := by
  rw [gf_sqr_eq _ (gf_x_lt ha hb), gf_sqr_eq _ ha, gf_sqr_eq _ hb, gf_mul_xl, gf_mul_xr, gf_mul_xr, gf_comm hb ha, Nat.xor_comm (gf_mul a b) (gf_mul b b), gf_x4, Nat.xor_self, Nat.xor_zero]
/-- one step of the chain to the 254th power: the square, times a -/
def gf_st (a x : Nat) : Nat := gf_mul (gf_sqr x) a
def gf_inv (a : Nat) : Nat := gf_sqr (gf_st a (gf_st a (gf_st a (gf_st a (gf_st a (gf_st a a))))))
theorem gf_inv_lt (a : Nat) : gf_inv a < 256 := gf_sqr_lt _
theorem gf_inv_r : ∀ a, a < 256 → a ≠ 0 → gf_mul a (gf_inv a) = 1 := by decide +kernel
theorem gf_inv_l {a : Nat} (ha : a < 256) (h0 : a ≠ 0) : gf_mul (gf_inv a) a = 1 := (gf_comm (gf_inv_lt a) ha).trans (gf_inv_r a ha h0)
theorem gf_inv_ne {a : Nat} (ha : a < 256) (h0 : a ≠ 0) : gf_inv a ≠ 0 := by
  intro h
  have h1 := gf_inv_r a ha h0
  rw [h, gf_mul_0r] at h1
  exact absurd h1 (by decide)
/-- multiplied by b, then divided by b -/
theorem gf_undo {a b : Nat} (ha : a < 256) (hb : b < 256) (h0 : b ≠ 0) : gf_mul (gf_mul a b) (gf_inv b) = a := by
  rw [gf_assoc ha hb (gf_inv_lt b), gf_inv_r b hb h0, gf_mul_1r a ha]
theorem gf_cancel {a a' b : Nat} (ha : a < 256) (ha' : a' < 256) (hb : b < 256) (h0 : b ≠ 0) (h : gf_mul a b = gf_mul a' b) : a = a' := by
  have h1 := gf_undo ha hb h0
  rw [h, gf_undo ha' hb h0] at h1
  exact h1.symm
theorem gf_no0 {a b : Nat} (ha : a < 256) (hb : b < 256) (h : gf_mul a b = 0) : a = 0 ∨ b = 0 := by
  by_cases h0 : b = 0
  · exact Or.inr h0
  · have h1 := gf_undo ha hb h0
    rw [h, gf_mul_0l] at h1
    exact Or.inl h1.symm
theorem gf_inv_uniq {a z : Nat} (ha : a < 256) (hz : z < 256) (h : gf_mul a z = 1) : a ≠ 0 ∧ z = gf_inv a := by
  have h0 : a ≠ 0 := by
    intro e
    rw [e, gf_mul_0l] at h
    exact absurd h (by decide)
  refine ⟨h0, ?_⟩
  have h1 : gf_mul (gf_mul (gf_inv a) a) z = gf_mul (gf_inv a) (gf_mul a z) := gf_assoc (gf_inv_lt a) ha hz
  rw [gf_inv_l ha h0, gf_mul_1l hz, h, gf_mul_1r _ (gf_inv_lt a)] at h1
  exact h1
-- ===== powers =====
def gf_pow (a : Nat) : Nat → Nat
  | 0 => 1
  | n + 1 => gf_mul (gf_pow a n) a
theorem gf_pow_s (a n : Nat) : gf_pow a (n + 1) = gf_mul (gf_pow a n) a := rfl
theorem gf_pow_lt (a n : Nat) : gf_pow a n < 256 := by
  cases n with
  | zero => exact (by decide : 1 < 256)
  | succ n => exact gf_lt _ _
theorem gf_pow_1 {a : Nat} (ha : a < 256) : gf_pow a 1 = a := gf_mul_1l ha
theorem gf_pow_add {a : Nat} (ha : a < 256) (m n : Nat) : gf_pow a (m + n) = gf_mul (gf_pow a m) (gf_pow a n) := by
  induction n with
  | zero => exact (gf_mul_1r _ (gf_pow_lt a m)).symm
  | succ n ih =>
    rw [← Nat.add_assoc, gf_pow_s, gf_pow_s, ih, gf_assoc (gf_pow_lt a m) (gf_pow_lt a n) ha]
theorem gf_pow_dbl {a : Nat} (ha : a < 256) (n : Nat) : gf_pow (gf_mul a a) n = gf_pow a (2 * n) := by
  induction n with
  | zero => rfl
  | succ n ih =>
    have h2 : gf_pow a 2 = gf_mul a a := by rw [gf_pow_s, gf_pow_1 ha]
    rw [gf_pow_s, ih, show 2 * (n + 1) = 2 * n + 2 by omega, gf_pow_add ha (2 * n) 2, h2]
theorem gf_pow_sqr {a : Nat} (ha : a < 256) (m : Nat) : gf_sqr (gf_pow a m) = gf_pow a (2 * m) := by
  rw [gf_sqr_eq _ (gf_pow_lt a m), ← gf_pow_add ha, show m + m = 2 * m by omega]
theorem gf_pow_st {a : Nat} (ha : a < 256) (m : Nat) : gf_st a (gf_pow a m) = gf_pow a (2 * m + 1) := by
  unfold gf_st
  rw [gf_pow_sqr ha, gf_pow_s]
theorem gf_pow_254 {a : Nat} (ha : a < 256) : gf_pow a 254 = gf_inv a := by
  have h := gf_pow_1 ha
  have e : gf_inv a = gf_sqr (gf_st a (gf_st a (gf_st a (gf_st a (gf_st a (gf_st a (gf_pow a 1))))))) := by rw [h]; rfl
  rw [e, gf_pow_st ha, gf_pow_st ha, gf_pow_st ha, gf_pow_st ha, gf_pow_st ha, gf_pow_st ha, gf_pow_sqr ha]
theorem gf_pow_z (n : Nat) : gf_pow 0 (n + 1) = 0 := gf_mul_0r _
theorem gf_pow_255 {a : Nat} (ha : a < 256) (h0 : a ≠ 0) : gf_pow a 255 = 1 := by
  rw [gf_pow_s, gf_pow_254 ha, gf_inv_l ha h0]
-- ===== the class's power: by squares =====
def gf_xs (f : Nat) : Nat → Nat
  | 0 => f
  | i + 1 => gf_sqr (gf_xs f i)
def gf_zs (f n : Nat) : Nat → Nat
  | 0 => 1
  | i + 1 => if n.testBit i = true then gf_mul (gf_zs f n i) (gf_xs f i) else gf_zs f n i
theorem gf_xs_lt {f : Nat} (hf : f < 256) (i : Nat) : gf_xs f i < 256 := by
  cases i with
  | zero => exact hf
  | succ i => exact gf_sqr_lt _
theorem gf_zs_lt (f n i : Nat) : gf_zs f n i < 256 := by
  induction i with
  | zero => exact (by decide : 1 < 256)
  | succ i ih =>
    show (if n.testBit i = true then gf_mul (gf_zs f n i) (gf_xs f i) else gf_zs f n i) < 256
    by_cases h : n.testBit i = true
    · rw [if_pos h]; exact gf_lt _ _
    · rw [if_neg h]; exact ih
theorem gf_half (n i : Nat) : n >>> i = 2 * (n >>> (i + 1)) + (if n.testBit i = true then 1 else 0) := by
  have h1 : n >>> (i + 1) = n >>> i / 2 := Nat.shiftRight_succ n i
  have h2 : n.testBit i = decide (n >>> i % 2 = 1) := by rw [Nat.testBit_eq_decide_div_mod_eq, Nat.shiftRight_eq_div_pow]
  rw [h1, h2]
  generalize n >>> i = z
  by_cases h : z % 2 = 1
  · rw [if_pos (decide_eq_true h)]; omega
  · rw [if_neg (by simpa using h)]; omega
theorem gf_sq_inv {f : Nat} (hf : f < 256) (n : Nat) : ∀ i, gf_mul (gf_zs f n i) (gf_pow (gf_xs f i) (n >>> i)) = gf_pow f n := by
  intro i
  induction i with
  | zero => exact gf_mul_1l (gf_pow_lt _ _)
  | succ i ih =>
    have hx := gf_xs_lt hf i
    have hz := gf_zs_lt f n i
    have e1 : gf_pow (gf_xs f (i + 1)) (n >>> (i + 1)) = gf_pow (gf_xs f i) (2 * (n >>> (i + 1))) := by
      show gf_pow (gf_sqr (gf_xs f i)) _ = _
      rw [gf_sqr_eq _ hx, gf_pow_dbl hx]
    have e2 : gf_zs f n (i + 1) = if n.testBit i = true then gf_mul (gf_zs f n i) (gf_xs f i) else gf_zs f n i := rfl
    rw [e1, e2]
    rw [gf_half n i] at ih
    by_cases h : n.testBit i = true
    · rw [if_pos h] at ih ⊢
      rw [gf_pow_s, gf_comm (gf_pow_lt _ _) hx, ← gf_assoc hz hx (gf_pow_lt _ _)] at ih
      exact ih
    · rw [if_neg h] at ih ⊢
      exact ih
theorem gf_sq_end {f n i : Nat} (hf : f < 256) (h : n >>> i = 0) : gf_zs f n i = gf_pow f n := by
  have h1 := gf_sq_inv hf n i
  rw [h] at h1
  exact (gf_mul_1r _ (gf_zs_lt f n i)).symm.trans h1
-- ===== the powers of 2 are all different =====
def gf_no1 : Nat → Nat → Bool
  | 0, _ => true
  | n + 1, z => (z != 1) && gf_no1 n (gf_mul z 2)
theorem gf_no1_ok : gf_no1 254 2 = true := by decide +kernel
theorem gf_no1_s : ∀ (n d : Nat), gf_no1 n (gf_pow 2 d) = true → ∀ k, k < n → gf_pow 2 (d + k) ≠ 1 := by
  intro n
  induction n with
  | zero => intro d _ k hk; exact absurd hk (Nat.not_lt_zero _)
  | succ n ih =>
    intro d h k hk
    have h' : ((gf_pow 2 d != 1) && gf_no1 n (gf_pow 2 (d + 1))) = true := h
    rw [Bool.and_eq_true] at h'
    cases k with
    | zero => exact bne_iff_ne.mp h'.1
    | succ k =>
      have h2 := ih (d + 1) h'.2 k (by omega)
      rw [show d + 1 + k = d + (k + 1) by omega] at h2
      exact h2
theorem gf_two_ne1 {d : Nat} (h0 : 0 < d) (h : d < 255) : gf_pow 2 d ≠ 1 := by
  have e : gf_pow 2 1 = 2 := gf_pow_1 (by decide)
  have h1 := gf_no1_s 254 1 (by rw [e]; exact gf_no1_ok) (d - 1) (by omega)
  rw [show 1 + (d - 1) = d by omega] at h1
  exact h1
theorem gf_two_ne0 (k : Nat) : gf_pow 2 k ≠ 0 := by
  induction k with
  | zero => exact (by decide : (1 : Nat) ≠ 0)
  | succ k ih =>
    intro h
    rcases gf_no0 (gf_pow_lt 2 k) (by decide) h with h1 | h1
    · exact ih h1
    · exact absurd h1 (by decide)
theorem gf_two_inj {i j : Nat} (hij : i < j) (hj : j < 255) : gf_pow 2 i ≠ gf_pow 2 j := by
  intro h
  have e : gf_pow 2 (i + (j - i)) = gf_mul (gf_pow 2 i) (gf_pow 2 (j - i)) := gf_pow_add (by decide) i (j - i)
  rw [show i + (j - i) = j by omega, ← h] at e
  have e1 : gf_mul 1 (gf_pow 2 i) = gf_mul (gf_pow 2 (j - i)) (gf_pow 2 i) := by
    rw [gf_mul_1l (gf_pow_lt _ _), gf_comm (gf_pow_lt _ _) (gf_pow_lt _ _)]
    exact e
  have e2 := gf_cancel (by decide) (gf_pow_lt _ _) (gf_pow_lt _ _) (gf_two_ne0 i) e1
  exact gf_two_ne1 (by omega) (by omega) e2.symm
-- ===== the law's own product =====
def gf_m1 (m : Nat) : Nat := if 255 < m <<< 1 then (m <<< 1) ^^^ 285 else m <<< 1
def gf_mv (a : Nat) : Nat → Nat
  | 0 => a
  | n + 1 => gf_m1 (gf_mv a n)
def gf_ps (a b : Nat) : Nat → Nat
  | 0 => 0
  | n + 1 => if b.testBit n = true then gf_ps a b n ^^^ gf_mv a n else gf_ps a b n
theorem gf_m1_lt : ∀ m, m < 256 → gf_m1 m < 256 := by decide +kernel
theorem gf_mv_lt {a : Nat} (ha : a < 256) (n : Nat) : gf_mv a n < 256 := by
  induction n with
  | zero => exact ha
  | succ n ih => exact gf_m1_lt _ ih
theorem gf_ps_lt {a : Nat} (ha : a < 256) (b n : Nat) : gf_ps a b n < 256 := by
  induction n with
  | zero => exact (by decide : 0 < 256)
  | succ n ih =>
    show (if b.testBit n = true then gf_ps a b n ^^^ gf_mv a n else gf_ps a b n) < 256
    by_cases h : b.testBit n = true
    · rw [if_pos h]; exact gf_x_lt ih (gf_mv_lt ha n)
    · rw [if_neg h]; exact ih
theorem gf_m1_two : ∀ m, m < 256 → gf_m1 m = gf_mul m 2 := by decide +kernel
theorem gf_two_pw : ∀ n, n < 7 → gf_mul (2 ^ n) 2 = 2 ^ (n + 1) := by decide +kernel
theorem gf_mv_eq {a : Nat} (ha : a < 256) : ∀ n, n < 8 → gf_mv a n = gf_mul a (2 ^ n) := by
  intro n
  induction n with
  | zero => intro _; exact (gf_mul_1r a ha).symm
  | succ n ih =>
    intro hn
    have hp : 2 ^ n < 256 := Nat.lt_of_le_of_lt (Nat.pow_le_pow_right (by decide) (by omega : n ≤ 7)) (by decide)
    show gf_m1 (gf_mv a n) = _
    rw [gf_m1_two _ (gf_mv_lt ha n), ih (by omega), gf_assoc ha hp (by decide), gf_two_pw n (by omega)]
theorem gf_ps_bits {a : Nat} (ha : a < 256) (b : Nat) : ∀ n, n ≤ 8 → gf_ps a b n = gf_mul a (gf_bits b n) := by
  intro n
  induction n with
  | zero => intro _; exact (gf_mul_0r a).symm
  | succ n ih =>
    intro hn
    show (if b.testBit n = true then gf_ps a b n ^^^ gf_mv a n else gf_ps a b n) = _
    rw [gf_bits_s, gf_mul_xr, ih (by omega), gf_mv_eq ha n (by omega)]
    by_cases h : b.testBit n = true
    · rw [if_pos h, if_pos h]
    · rw [if_neg h, if_neg h, gf_mul_0r, Nat.xor_zero]
theorem gf_ps_eq {a b : Nat} (ha : a < 256) (hb : b < 256) : gf_ps a b 8 = gf_mul a b := by
  rw [gf_ps_bits ha b 8 (Nat.le_refl 8), gf_bits_8 b hb]
-- ===== polynomials of degree at most 8: f i is the place of x^i; Horner from the 8th down =====
def gf_hn (f : Nat → Nat) (v : Nat) : Nat → Nat
  | 0 => f 8
  | k + 1 => gf_mul (gf_hn f v k) v ^^^ f (7 - k)
theorem gf_hn_s (f : Nat → Nat) (v k : Nat) : gf_hn f v (k + 1) = gf_mul (gf_hn f v k) v ^^^ f (7 - k) := rfl
theorem gf_hn_lt {f : Nat → Nat} (hf : ∀ i, i < 9 → f i < 256) (v k : Nat) : gf_hn f v k < 256 := by
  cases k with
  | zero => exact hf 8 (by decide)
  | succ k => exact gf_x_lt (gf_lt _ _) (hf _ (by omega))
/-- what comes of f times (x - r) -/
def gf_up (r : Nat) (f : Nat → Nat) : Nat → Nat := fun i => (if 0 < i then f (i - 1) else 0) ^^^ gf_mul r (f i)
def gf_sh (f : Nat → Nat) : Nat → Nat := fun i => if 0 < i then f (i - 1) else 0
theorem gf_hn_up {r v : Nat} (hr : r < 256) (hv : v < 256) {f : Nat → Nat} (hf : ∀ i, i < 9 → f i < 256) : ∀ k, gf_hn (gf_up r f) v k = gf_hn (gf_sh f) v k ^^^ gf_mul r (gf_hn f v k) := by
  intro k
  induction k with
  | zero => rfl
  | succ k ih =>
    rw [gf_hn_s, gf_hn_s, gf_hn_s, ih, gf_mul_xl, gf_mul_xr, gf_assoc hr (gf_hn_lt hf v k) hv]
    show _ ^^^ _ ^^^ (gf_sh f (7 - k) ^^^ gf_mul r (f (7 - k))) = _
    rw [gf_x4]
theorem gf_hn_sh {v : Nat} {f : Nat → Nat} (h8 : f 8 = 0) : ∀ k, k ≤ 7 → gf_hn (gf_sh f) v k = gf_hn f v (k + 1) := by
  intro k
  induction k with
  | zero =>
    intro _
    show f 7 = gf_mul (f 8) v ^^^ f 7
    rw [h8, gf_mul_0l, Nat.zero_xor]
  | succ k ih =>
    intro hk
    rw [gf_hn_s, ih (by omega), gf_hn_s f v (k + 1)]
    have e : gf_sh f (7 - k) = f (7 - (k + 1)) := by
      show (if 0 < 7 - k then f (7 - k - 1) else 0) = _
      rw [if_pos (by omega), show 7 - k - 1 = 7 - (k + 1) by omega]
    rw [e]
theorem gf_hn_step {r v : Nat} (hr : r < 256) (hv : v < 256) {f : Nat → Nat} (hf : ∀ i, i < 9 → f i < 256) (h8 : f 8 = 0) : gf_hn (gf_up r f) v 8 = gf_mul (v ^^^ r) (gf_hn f v 8) := by
  rw [gf_hn_up hr hv hf 8]
  have e : gf_hn (gf_sh f) v 8 = gf_mul v (gf_hn f v 8) := by
    rw [gf_hn_s (gf_sh f) v 7, gf_hn_sh h8 7 (Nat.le_refl 7), gf_comm hv (gf_hn_lt hf v 8)]
    exact Nat.xor_zero _
  rw [e, gf_mul_xl]
/-- the coefficients behind n factors (x - r 0) .. (x - r (n-1)) -/
def gf_co (r : Nat → Nat) : Nat → Nat → Nat
  | 0 => fun i => if i = 0 then 1 else 0
  | n + 1 => gf_up (r n) (gf_co r n)
theorem gf_co_s (r : Nat → Nat) (n : Nat) : gf_co r (n + 1) = gf_up (r n) (gf_co r n) := rfl
theorem gf_co_lt (r : Nat → Nat) (n i : Nat) : gf_co r n i < 256 := by
  induction n generalizing i with
  | zero =>
    show (if i = 0 then 1 else 0) < 256
    by_cases h : i = 0
    · rw [if_pos h]; decide
    · rw [if_neg h]; decide
  | succ n ih =>
    refine gf_x_lt ?_ (gf_lt _ _)
    by_cases h : 0 < i
    · rw [if_pos h]; exact ih _
    · rw [if_neg h]; decide
theorem gf_co_0 (r : Nat → Nat) (n i : Nat) (h : n < i) : gf_co r n i = 0 := by
  induction n generalizing i with
  | zero => exact if_neg (by omega)
  | succ n ih =>
    show (if 0 < i then gf_co r n (i - 1) else 0) ^^^ gf_mul (r n) (gf_co r n i) = 0
    rw [if_pos (by omega), ih (i - 1) (by omega), ih i (by omega), gf_mul_0r, Nat.xor_self]
theorem gf_co_1 (r : Nat → Nat) (n : Nat) : gf_co r n n = 1 := by
  induction n with
  | zero => rfl
  | succ n ih =>
    show (if 0 < n + 1 then gf_co r n (n + 1 - 1) else 0) ^^^ gf_mul (r n) (gf_co r n (n + 1)) = 1
    rw [if_pos (by omega), gf_co_0 r n (n + 1) (by omega), gf_mul_0r, Nat.xor_zero]
    exact ih
theorem gf_hn_0 (r : Nat → Nat) (v : Nat) : ∀ k, k < 8 → gf_hn (gf_co r 0) v k = 0 := by
  intro k
  induction k with
  | zero => intro _; rfl
  | succ k ih =>
    intro hk
    rw [gf_hn_s, ih (by omega), gf_mul_0l, Nat.zero_xor]
    exact if_neg (by omega)
/-- the value at v is 0 at the roots and nowhere else -/
theorem gf_root {r : Nat → Nat} (hr : ∀ i, r i < 256) {v : Nat} (hv : v < 256) : ∀ n, n ≤ 8 → (gf_hn (gf_co r n) v 8 = 0 ↔ ∃ j, j < n ∧ r j = v) := by
  intro n
  induction n with
  | zero =>
    intro _
    refine ⟨fun h => ?_, fun ⟨j, h, _⟩ => absurd h (Nat.not_lt_zero _)⟩
    rw [gf_hn_s, gf_hn_0 r v 7 (by decide), gf_mul_0l, Nat.zero_xor] at h
    have h1 : (1 : Nat) = 0 := h
    exact absurd h1 (by decide)
  | succ n ih =>
    intro hn
    rw [gf_co_s, gf_hn_step (hr n) hv (fun i _ => gf_co_lt r n i) (gf_co_0 r n 8 (by omega))]
    have hl : gf_hn (gf_co r n) v 8 < 256 := gf_hn_lt (fun i _ => gf_co_lt r n i) v 8
    refine ⟨fun h => ?_, fun ⟨j, hj, e⟩ => ?_⟩
    · rcases gf_no0 (gf_x_lt hv (hr n)) hl h with h1 | h1
      · exact ⟨n, by omega, (gf_x_0 h1).symm⟩
      · obtain ⟨j, hj, e⟩ := (ih (by omega)).mp h1
        exact ⟨j, by omega, e⟩
    · rcases Nat.lt_or_ge j n with h1 | h1
      · rw [(ih (by omega)).mpr ⟨j, h1, e⟩, gf_mul_0r]
      · have h2 : j = n := by omega
        subst h2
        rw [e, Nat.xor_self, gf_mul_0l]
end
section
/-! Int32 by numbers; calls that only read; loops -/
theorem nx_and (a b : Nat) : nI a &&& nI b = nI (a &&& b) := by
  apply Int32.toBitVec_inj.1
  show BitVec.ofNat 32 a &&& BitVec.ofNat 32 b = BitVec.ofNat 32 (a &&& b)
  apply BitVec.eq_of_getLsbD_eq
  intro i hi
  simp [hi]
theorem nx_xor (a b : Nat) : nI a ^^^ nI b = nI (a ^^^ b) := by
  apply Int32.toBitVec_inj.1
  show BitVec.ofNat 32 a ^^^ BitVec.ofNat 32 b = BitVec.ofNat 32 (a ^^^ b)
  apply BitVec.eq_of_getLsbD_eq
  intro i hi
  simp [hi]
theorem nx_or (a b : Nat) : nI a ||| nI b = nI (a ||| b) := by
  apply Int32.toBitVec_inj.1
  show BitVec.ofNat 32 a ||| BitVec.ofNat 32 b = BitVec.ofNat 32 (a ||| b)
  apply BitVec.eq_of_getLsbD_eq
  intro i hi
  simp [hi]
theorem nx_cnt : ∀ j : Fin 32, (UInt32.ofNat j.val &&& Int32.toUInt32 31).toNat % 32 = j.val := by decide +kernel
theorem nx_ush {k j : Nat} (hk : k < 65536) (hj : j < 32) : ((nI k).toUInt32 >>> ((nI j).toUInt32 &&& Int32.toUInt32 31)).toInt32 = nI (k >>> j) := by
  have hs : k >>> j ≤ k := by
    rw [Nat.shiftRight_eq_div_pow]
    exact Nat.div_le_self _ _
  have e2 : UInt32.ofNat k >>> (UInt32.ofNat j &&& Int32.toUInt32 31) = UInt32.ofNat (k >>> j) := by
    apply UInt32.toNat_inj.1
    have h1 : (UInt32.ofNat k).toNat = k := Nat.mod_eq_of_lt (by omega)
    have h2 : (UInt32.ofNat (k >>> j)).toNat = k >>> j := Nat.mod_eq_of_lt (by omega)
    rw [UInt32.toNat_shiftRight, nx_cnt ⟨j, hj⟩, h1, h2]
  show (UInt32.ofNat k >>> (UInt32.ofNat j &&& Int32.toUInt32 31)).toInt32 = _
  rw [e2]
  rfl
theorem s_l : ∀ n, n < 32 → ((nI n &&& 31).toBitVec.smod 32).toNat = n := by decide +kernel
/-- the lowest eight bits -/
def gl_lo (x : Int32) : Nat := x.toBitVec.toNat % 256
theorem gl_lo_lt (x : Int32) : gl_lo x < 256 := Nat.mod_lt _ (by decide)
theorem gl_and (x : Int32) : x &&& nI 255 = nI (gl_lo x) := pk_and x 8 (by decide +kernel)
theorem gl_lo_n {n : Nat} (h : n < 256) : gl_lo (nI n) = n := by
  unfold gl_lo
  rw [pk_tn (by omega)]
  exact Nat.mod_eq_of_lt h
theorem gl_and_n {n : Nat} (h : n < 2 ^ 31) : nI n &&& nI 255 = nI (n % 256) := pk_andN (by omega) 8 (by decide +kernel)
theorem gl_and_b {n : Nat} (h : n < 256) : nI n &&& nI 255 = nI n := by rw [gl_and, gl_lo_n h]
theorem gl_and_7 (x : Int32) : ∃ j : Nat, j < 8 ∧ x &&& nI 7 = nI j := ⟨_, Nat.mod_lt _ (by decide), pk_and x 3 (by decide +kernel)⟩
theorem gl_bit (x i : Nat) : nI (x >>> i) &&& nI 1 = nI (x.testBit i).toNat := by
  rw [nx_and, Nat.and_one_is_mod, Nat.testBit_eq_decide_div_mod_eq, Nat.shiftRight_eq_div_pow]
  generalize x / 2 ^ i = z
  by_cases h : z % 2 = 1
  · rw [decide_eq_true h, h]; rfl
  · rw [decide_eq_false h, show z % 2 = 0 by omega]; rfl
theorem gl_mask (b : Bool) (y : Nat) : -(nI b.toNat) &&& nI y = nI (if b = true then y else 0) := by
  cases b
  · show -(nI 0) &&& nI y = nI 0
    rw [show -(nI 0) = nI 0 by decide +kernel, nx_and, Nat.zero_and]
  · show -(nI 1) &&& nI y = nI y
    apply Int32.toBitVec_inj.1
    rw [Int32.toBitVec_and, show (-(nI 1)).toBitVec = BitVec.allOnes 32 by decide +kernel, BitVec.allOnes_and]
theorem gl_b1 (b : Bool) : nI b.toNat = nI 1 ↔ b = true := by
  cases b
  · exact ⟨fun h => absurd h (by decide +kernel), fun h => by cases h⟩
  · exact ⟨fun _ => rfl, fun _ => rfl⟩
theorem gl_shl {a i : Nat} (hi : i < 32) (h : a <<< i < 2 ^ 31) : nI a <<< (nI i &&& 31) = nI (a <<< i) := by
  rw [Nat.shiftLeft_eq] at h ⊢
  exact pk_shlN _ i (s_l i hi) (Nat.lt_of_lt_of_le h (by decide))
theorem gl_shr {a i : Nat} (hi : i < 32) (h : a < 2 ^ 31) : nI a >>> (nI i &&& 31) = nI (a >>> i) := by
  rw [Nat.shiftRight_eq_div_pow]
  exact pk_shrN h _ i (s_l i hi)
theorem gl_sub {a b c : Nat} (h : a = b + c) : nI a - nI b = nI c := by
  rw [pk_sub (by omega), h, Nat.add_sub_cancel_left]
theorem gl_dec (n : Nat) : nI (n + 1) + Int32.ofInt (-1) = nI n := pk_m1 n
theorem gl_inc (n : Nat) : nI n + Int32.ofInt 1 = nI (n + 1) := nI_add n 1
theorem gl_inc4 (n : Nat) : nI n + Int32.ofInt 4 = nI (n + 4) := nI_add n 4
theorem gl_cl {n : Nat} (h : n < 256) : (nI n).toNatClampNeg = n := nI_clamp (by omega)
theorem gl_eq {a b : Nat} (ha : a < 256) (hb : b < 256) : nI a = nI b ↔ a = b := nI_eq (by omega) (by omega)
theorem gl_m1 {a : Nat} (ha : a < 256) : nI a ≠ -1 := by
  intro h
  have h1 := nI_toInt (n := a) (by omega)
  rw [h] at h1
  have h2 : (-1 : Int32).toInt = -1 := by decide +kernel
  omega
section GLW
variable {p : Program} {l : Launch} {e : Env} {R : Room} {s : State} {m : MethodId} {args : Array Value} {below : List Frame} {meth : Method} {c : Code} {H : Heap} {locs : List Loc} {cells slots : Nat} {Q : State → Prop}
variable {pc nL : Nat} {ls : Array Slot} {rest st0 : List Value} {a : Array Value}
/-- a number on the stack under another name -/
theorem gl_to {x y : Int32} (h : x = y) (k : W p l e R s m args below meth c H locs cells slots Q (F0 m pc ls (.int y :: rest))) : W p l e R s m args below meth c H locs cells slots Q (F0 m pc ls (.int x :: rest)) := by
  rw [h]
  exact k
/-- a call that only reads -/
theorem gl_call {r : Int32} (hr : CallRun p l e R s m args below meth c H locs cells slots 0 0 (F0 m pc ls st0) rest (QcRead r a) (fun _ => False)) (kk : W p l e R s m args below meth c H locs cells slots Q (F0 m (pc + 3) ls (.int r :: rest))) : W p l e R s m args below meth c H locs cells slots Q (F0 m pc ls st0) := W.callR hr kk
/-- a loop whose heap stands: the locals at the head by the number of rounds -/
theorem gl_loop (inv : Nat → List (Nat × Value)) (P : Nat → Prop) (N : Nat)
    (step : ∀ i, i < N → P i → (∀ ls : Array Slot, P (i + 1) → lv_has ls nL (inv (i + 1)) → W p l e R s m args below meth c H locs cells slots Q (F0 m pc ls [])) → ∀ ls : Array Slot, lv_has ls nL (inv i) → W p l e R s m args below meth c H locs cells slots Q (F0 m pc ls []))
    (exit : ∀ ls : Array Slot, P N → lv_has ls nL (inv N) → W p l e R s m args below meth c H locs cells slots Q (F0 m pc ls [])) (ls : Array Slot) (h0 : P 0) (hl : lv_has ls nL (inv 0)) : W p l e R s m args below meth c H locs cells slots Q (F0 m pc ls []) := by
  have key : ∀ n i, i + n = N → ∀ ls : Array Slot, P i → lv_has ls nL (inv i) → W p l e R s m args below meth c H locs cells slots Q (F0 m pc ls []) := by
    intro n
    induction n with
    | zero =>
      intro i hi ls hp h
      have e1 : i = N := by omega
      subst e1
      exact exit ls hp h
    | succ n ih =>
      intro i hi ls hp h
      exact step i (by omega) hp (fun ls' hp' h' => ih (i + 1) (by omega) ls' hp' h') ls h
  exact key N 0 (by omega) ls h0 hl
/-- a loop that changes the heap: what holds at the head by the number of rounds -/
theorem gl_hloop (I : Nat → List (Nat × Value) → Heap → List Loc → Prop) (N : Nat)
    (step : ∀ i, i < N → (∀ (ls : Array Slot) (lv : List (Nat × Value)) (H : Heap) (locs : List Loc), lv_has ls nL lv → I (i + 1) lv H locs → W p l e R s m args below meth c H locs cells slots Q (F0 m pc ls [])) → ∀ (ls : Array Slot) (lv : List (Nat × Value)) (H : Heap) (locs : List Loc), lv_has ls nL lv → I i lv H locs → W p l e R s m args below meth c H locs cells slots Q (F0 m pc ls []))
    (exit : ∀ (ls : Array Slot) (lv : List (Nat × Value)) (H : Heap) (locs : List Loc), lv_has ls nL lv → I N lv H locs → W p l e R s m args below meth c H locs cells slots Q (F0 m pc ls [])) (lv : List (Nat × Value)) (hl : lv_has ls nL lv) (h0 : I 0 lv H locs) : W p l e R s m args below meth c H locs cells slots Q (F0 m pc ls []) := by
  have key : ∀ n i, i + n = N → ∀ (ls : Array Slot) (lv : List (Nat × Value)) (H : Heap) (locs : List Loc), lv_has ls nL lv → I i lv H locs → W p l e R s m args below meth c H locs cells slots Q (F0 m pc ls []) := by
    intro n
    induction n with
    | zero =>
      intro i hi ls lv H locs hl h
      have e1 : i = N := by omega
      subst e1
      exact exit ls lv H locs hl h
    | succ n ih =>
      intro i hi ls lv H locs hl h
      exact step i (by omega) (fun ls' lv' H' locs' hl' h' => ih (i + 1) (by omega) ls' lv' H' locs' hl' h') ls lv H locs hl h
  exact key N 0 (by omega) ls lv H locs hl h0
/-- where branches meet again (the heap stands): what holds there is proved once -/
theorem gl_meet {g : JFrame} (pc2 : Nat) (lv2 : List (Nat × Value)) (st2 : List Value) (k : ∀ ls : Array Slot, lv_has ls nL lv2 → W p l e R s m args below meth c H locs cells slots Q (F0 m pc2 ls st2)) (kk : (∀ ls : Array Slot, lv_has ls nL lv2 → W p l e R s m args below meth c H locs cells slots Q (F0 m pc2 ls st2)) → W p l e R s m args below meth c H locs cells slots Q g) : W p l e R s m args below meth c H locs cells slots Q g := kk k
/-- the same where the heap may have changed -/
theorem gl_meetH {g : JFrame} (pc2 : Nat) (I : Array Slot → Heap → List Loc → Prop) (k : ∀ (ls : Array Slot) (H : Heap) (locs : List Loc), I ls H locs → W p l e R s m args below meth c H locs cells slots Q (F0 m pc2 ls [])) (kk : (∀ (ls : Array Slot) (H : Heap) (locs : List Loc), I ls H locs → W p l e R s m args below meth c H locs cells slots Q (F0 m pc2 ls [])) → W p l e R s m args below meth c H locs cells slots Q g) : W p l e R s m args below meth c H locs cells slots Q g := kk k
end GLW
end
section
/-! GF: six methods, all of them read nothing and write nothing -/
set_option maxHeartbeats 4000000 in
set_option maxRecDepth 100000 in
/-- GF.reduce(x): bits 14 .. 8 are taken out by the modulus -/
theorem met_reduce (l : Launch) (x : Nat) (hx15 : x < 2 ^ 15) : Met l yX2_reduce (ws_ yX2_reduce cX2_reduce 3 (some .int)) ({ frames := 0, cells := 0, slots := 0, locals := 0 } : Room) (fun v _ => v = ([.int (nI x)] : List Value).toArray) (QcRead (nI (gf_rd x 7 % 256))) 0 0 (fun _ => False) := by
  refine Met.ofW (cc := cX2_reduce) (maxL := 3) (ret := some .int) (by decide) rfl ?_
  intro p e s m args below meth c s₁ B hml hv
  have hv : args = ([.int (nI x)] : List Value).toArray := hv
  subst hv
  have hx := B.exec
  have hb := B.bytes
  have hr := B.returns
  have hts := atoms_spec (ws := ws_ yX2_reduce cX2_reduce 3 (some .int)) B.pre
  have hts : ∀ w ∈ lw_all, w.before _ s = true := fun w h => hts w (List.mem_cons_of_mem _ h)
  have hown : s.vm.findClass RX2 = some m.cls := findClass_of_methodNamed B.named
  have hlocks := B.notSynchronized
  have hl := lv_entry ([.int (nI x)]) (n := 3) (Nat.le_of_ble_eq_true rfl)
  rw [lg_entry_eq]
  generalize (lg_sl ([.int (nI x)]) ++ List.replicate (3 - (lg_sl ([.int (nI x)])).length) Slot.unset).toArray = ls at hl ⊢
  have hl : lv_has ls 3 [(0, .int (nI x))] := hl
  refine lv_bipush (v := nI 14) hx hb dX2_reduce_0 (by decide) ?_
  refine lv_istore_n (lv' := [(1, .int (nI 14)), (0, .int (nI x))]) hx hb dX2_reduce_2 rfl hl (by decide) rfl (fun ls hl => ?_)
  refine gl_loop (pc := 3) (nL := 3) (fun k => [(0, .int (nI (gf_rd x k))), (1, .int (nI (14 - k)))]) (fun _ => True) 7 ?_ ?_ ls trivial (lv_sub hl [1, 0] rfl)
  · intro k hk _ ih ls hl
    have hxk := gf_rd_lt hx15 k
    have hl : lv_has ls 3 [(0, .int (nI (gf_rd x k))), (1, .int (nI (14 - k)))] := hl
    refine lv_iload_n hx hb dX2_reduce_3 rfl (lv_at hl 1 rfl) ?_
    refine lv_bipush (v := nI 8) hx hb dX2_reduce_4 (by decide) ?_
    refine lv_icmp_lt (tgt := 35) hx hb dX2_reduce_6 (by decide) (fun c_6 => ?_) (fun c_6 => ?_)
    · exact absurd c_6 (nI_nlt (by omega) (by omega))
    · refine lv_iload_n hx hb dX2_reduce_9 rfl (lv_at hl 0 rfl) ?_
      refine lv_iload_n hx hb dX2_reduce_10 rfl (lv_at hl 1 rfl) ?_
      refine lv_iushr (v := nI (gf_rd x k >>> (14 - k))) hx hb dX2_reduce_11 (nx_ush (by omega) (by omega)) ?_
      refine lv_iconst (v := nI 1) hx hb dX2_reduce_12 (by decide) ?_
      refine lv_iand hx hb dX2_reduce_13 ?_
      refine gl_to (y := nI ((gf_rd x k).testBit (14 - k)).toNat) (gl_bit _ _) ?_
      refine lv_ineg hx hb dX2_reduce_14 ?_
      refine lv_istore_n (lv' := [(2, .int (-(nI ((gf_rd x k).testBit (14 - k)).toNat))), (0, .int (nI (gf_rd x k))), (1, .int (nI (14 - k)))]) hx hb dX2_reduce_15 rfl hl (by decide) rfl (fun ls hl => ?_)
      refine lv_iload_n hx hb dX2_reduce_16 rfl (lv_at hl 1 rfl) ?_
      refine lv_iload_n hx hb dX2_reduce_17 rfl (lv_at hl 0 rfl) ?_
      refine lv_sipush (v := nI 285) hx hb dX2_reduce_18 (by decide) ?_
      refine lv_iload_n hx hb dX2_reduce_21 rfl (lv_at hl 2 rfl) ?_
      refine lv_bipush (v := nI 8) hx hb dX2_reduce_22 (by decide) ?_
      refine lv_isub hx hb dX2_reduce_24 ?_
      refine gl_to (y := nI (6 - k)) (gl_sub (by omega)) ?_
      refine lv_ishl hx hb dX2_reduce_25 ?_
      refine gl_to (y := nI (285 <<< (6 - k))) (gl_shl (by omega) (Nat.lt_trans (gf_285 _ (by omega)) (by decide))) ?_
      refine lv_iand hx hb dX2_reduce_26 ?_
      refine gl_to (y := nI (if (gf_rd x k).testBit (14 - k) = true then 285 <<< (6 - k) else 0)) (gl_mask _ _) ?_
      refine lv_ixor hx hb dX2_reduce_27 ?_
      refine gl_to (y := nI (gf_rd x (k + 1))) (nx_xor _ _) ?_
      refine lv_istore_n (lv' := [(0, .int (nI (gf_rd x (k + 1)))), (2, .int (-(nI ((gf_rd x k).testBit (14 - k)).toNat))), (1, .int (nI (14 - k)))]) hx hb dX2_reduce_28 rfl hl (by decide) rfl (fun ls hl => ?_)
      refine lv_iinc (v := nI (14 - (k + 1))) (lv' := [(1, .int (nI (14 - (k + 1)))), (0, .int (nI (gf_rd x (k + 1)))), (2, .int (-(nI ((gf_rd x k).testBit (14 - k)).toNat)))]) hx hb dX2_reduce_29 hl (k := 2) rfl (by rw [show 14 - k = 14 - (k + 1) + 1 by omega]; exact gl_dec _) (by decide) rfl (fun ls hl => ?_)
      refine lv_goto (tgt := 3) hx hb dX2_reduce_32 (by decide) ?_
      exact ih ls trivial (lv_sub hl [1, 0] rfl)
  · intro ls _ hl
    have hl : lv_has ls 3 [(0, .int (nI (gf_rd x 7))), (1, .int (nI 7))] := hl
    refine lv_iload_n hx hb dX2_reduce_3 rfl (lv_at hl 1 rfl) ?_
    refine lv_bipush (v := nI 8) hx hb dX2_reduce_4 (by decide) ?_
    refine lv_icmp_lt (tgt := 35) hx hb dX2_reduce_6 (by decide) (fun c_6 => ?_) (fun c_6 => ?_)
    · refine lv_iload_n hx hb dX2_reduce_35 rfl (lv_at hl 0 rfl) ?_
      refine lv_sipush (v := nI 255) hx hb dX2_reduce_36 (by decide) ?_
      refine lv_iand hx hb dX2_reduce_39 ?_
      refine gl_to (y := nI (gf_rd x 7 % 256)) (gl_and_n (Nat.lt_trans (gf_rd_lt hx15 7) (by decide))) ?_
      exact W.iret (v := nI (gf_rd x 7 % 256)) hx hb hr (fun t ht hW => ⟨rfl, ht⟩) (fun _ h => by cases h) dX2_reduce_40
    · exact absurd (nI_lt (a := 7) (b := 8) (by decide) (by decide)) c_6
set_option maxHeartbeats 4000000 in
set_option maxRecDepth 100000 in
/-- GF.mul(a, b) -/
theorem met_mul (l : Launch) (a b : Nat) (ha : a < 256) (hb8 : b < 256) : Met l yX2_mul (ws_ yX2_mul cX2_mul 5 (some .int)) ({ frames := 1, cells := 0, slots := 0, locals := 22 } : Room) (fun v _ => v = ([.int (nI a), .int (nI b)] : List Value).toArray) (QcRead (nI (gf_mul a b))) 0 0 (fun _ => False) := by
  refine Met.ofW (cc := cX2_mul) (maxL := 5) (ret := some .int) (by decide) rfl ?_
  intro p e s m args below meth c s₁ B hml hv
  have hv : args = ([.int (nI a), .int (nI b)] : List Value).toArray := hv
  subst hv
  have hx := B.exec
  have hb := B.bytes
  have hr := B.returns
  have hts := atoms_spec (ws := ws_ yX2_mul cX2_mul 5 (some .int)) B.pre
  have hts : ∀ w ∈ lw_all, w.before _ s = true := fun w h => hts w (List.mem_cons_of_mem _ h)
  have hown : s.vm.findClass RX2 = some m.cls := findClass_of_methodNamed B.named
  have hlocks := B.notSynchronized
  have hl := lv_entry ([.int (nI a), .int (nI b)]) (n := 5) (Nat.le_of_ble_eq_true rfl)
  rw [lg_entry_eq]
  generalize (lg_sl ([.int (nI a), .int (nI b)]) ++ List.replicate (5 - (lg_sl ([.int (nI a), .int (nI b)])).length) Slot.unset).toArray = ls at hl ⊢
  have hl : lv_has ls 5 [(0, .int (nI a)), (1, .int (nI b))] := hl
  refine lv_iconst (v := nI 0) hx hb dX2_mul_0 (by decide) ?_
  refine lv_istore_n (lv' := [(2, .int (nI 0)), (0, .int (nI a)), (1, .int (nI b))]) hx hb dX2_mul_1 rfl hl (by decide) rfl (fun ls hl => ?_)
  refine lv_iconst (v := nI 0) hx hb dX2_mul_2 (by decide) ?_
  refine lv_istore_n (lv' := [(3, .int (nI 0)), (2, .int (nI 0)), (0, .int (nI a)), (1, .int (nI b))]) hx hb dX2_mul_3 rfl hl (by decide) rfl (fun ls hl => ?_)
  refine gl_loop (pc := 4) (nL := 5) (fun i => [(0, .int (nI a)), (1, .int (nI b)), (2, .int (nI (gf_cm a b i))), (3, .int (nI i))]) (fun _ => True) 8 ?_ ?_ ls trivial (lv_sub hl [2, 3, 1, 0] rfl)
  · intro i hi _ ih ls hl
    have hl : lv_has ls 5 [(0, .int (nI a)), (1, .int (nI b)), (2, .int (nI (gf_cm a b i))), (3, .int (nI i))] := hl
    refine lv_iload_n hx hb dX2_mul_4 rfl (lv_at hl 3 rfl) ?_
    refine lv_bipush (v := nI 8) hx hb dX2_mul_5 (by decide) ?_
    refine lv_icmp_ge (tgt := 33) hx hb dX2_mul_7 (by decide) (fun c_7 => ?_) (fun c_7 => ?_)
    · exact absurd c_7 (nI_ge (by omega) (by omega))
    · refine lv_iload_n hx hb dX2_mul_10 rfl (lv_at hl 1 rfl) ?_
      refine lv_iload_n hx hb dX2_mul_11 rfl (lv_at hl 3 rfl) ?_
      refine lv_iushr (v := nI (b >>> i)) hx hb dX2_mul_12 (nx_ush (by omega) (by omega)) ?_
      refine lv_iconst (v := nI 1) hx hb dX2_mul_13 (by decide) ?_
      refine lv_iand hx hb dX2_mul_14 ?_
      refine gl_to (y := nI (b.testBit i).toNat) (gl_bit _ _) ?_
      refine lv_ineg hx hb dX2_mul_15 ?_
      refine lv_istore (lv' := [(4, .int (-(nI (b.testBit i).toNat))), (0, .int (nI a)), (1, .int (nI b)), (2, .int (nI (gf_cm a b i))), (3, .int (nI i))]) hx hb dX2_mul_16 hl (by decide) rfl (fun ls hl => ?_)
      refine lv_iload_n hx hb dX2_mul_18 rfl (lv_at hl 3 rfl) ?_
      refine lv_iload hx hb dX2_mul_19 (lv_at hl 0 rfl) ?_
      refine lv_iload_n hx hb dX2_mul_21 rfl (lv_at hl 1 rfl) ?_
      refine lv_iload_n hx hb dX2_mul_22 rfl (lv_at hl 4 rfl) ?_
      refine lv_ishl hx hb dX2_mul_23 ?_
      refine gl_to (y := nI (a <<< i)) (gl_shl (by omega) (Nat.lt_trans (gf_shl_lt ha hi) (by decide))) ?_
      refine lv_iand hx hb dX2_mul_24 ?_
      refine gl_to (y := nI (if b.testBit i = true then a <<< i else 0)) (gl_mask _ _) ?_
      refine lv_ixor hx hb dX2_mul_25 ?_
      refine gl_to (y := nI (gf_cm a b (i + 1))) (nx_xor _ _) ?_
      refine lv_istore_n (lv' := [(2, .int (nI (gf_cm a b (i + 1)))), (4, .int (-(nI (b.testBit i).toNat))), (0, .int (nI a)), (1, .int (nI b)), (3, .int (nI i))]) hx hb dX2_mul_26 rfl hl (by decide) rfl (fun ls hl => ?_)
      refine lv_iinc (v := nI (i + 1)) (lv' := [(3, .int (nI (i + 1))), (2, .int (nI (gf_cm a b (i + 1)))), (4, .int (-(nI (b.testBit i).toNat))), (0, .int (nI a)), (1, .int (nI b))]) hx hb dX2_mul_27 hl (k := 4) rfl (gl_inc i) (by decide) rfl (fun ls hl => ?_)
      refine lv_goto (tgt := 4) hx hb dX2_mul_30 (by decide) ?_
      exact ih ls trivial (lv_sub hl [3, 4, 1, 0] rfl)
  · intro ls _ hl
    have hl : lv_has ls 5 [(0, .int (nI a)), (1, .int (nI b)), (2, .int (nI (gf_cm a b 8))), (3, .int (nI 8))] := hl
    refine lv_iload_n hx hb dX2_mul_4 rfl (lv_at hl 3 rfl) ?_
    refine lv_bipush (v := nI 8) hx hb dX2_mul_5 (by decide) ?_
    refine lv_icmp_ge (tgt := 33) hx hb dX2_mul_7 (by decide) (fun c_7 => ?_) (fun c_7 => ?_)
    · refine lv_iload_n hx hb dX2_mul_33 rfl (lv_at hl 2 rfl) ?_
      refine gl_call (W.runS (As := [.int (nI (gf_cm a b 8))]) (rest := []) ⟨hx, hb, hml, hown, hts⟩ (met_reduce l (gf_cm a b 8) (gf_cm_lt ha b 8 (Nat.le_refl 8))) (va_cwS 1 hts (lw_S q22 q23 q2 q24) rfl rfl rfl (by decide +kernel) ⟨Nat.le_of_ble_eq_true rfl, Nat.le_of_ble_eq_true rfl⟩) preEq rfl rfl hl.1 rfl (lv_room (Nat.le_of_ble_eq_true rfl)) dX2_mul_34 ⟨Nat.le_of_ble_eq_true rfl, Nat.le_of_ble_eq_true rfl⟩) ?_
      exact W.iret (v := nI (gf_rd (gf_cm a b 8) 7 % 256)) hx hb hr (fun t ht hW => ⟨rfl, ht⟩) (fun _ h => by cases h) dX2_mul_37
    · exact absurd (nI_le (Nat.le_refl 8) (by decide)) c_7
set_option maxHeartbeats 4000000 in
set_option maxRecDepth 100000 in
/-- GF.mul3(a, b, c) -/
theorem met_mul3 (l : Launch) (a b c3 : Nat) (ha : a < 256) (hb8 : b < 256) (hc8 : c3 < 256) : Met l yX2_mul3 (ws_ yX2_mul3 cX2_mul3 3 (some .int)) ({ frames := 2, cells := 0, slots := 0, locals := 46 } : Room) (fun v _ => v = ([.int (nI a), .int (nI b), .int (nI c3)] : List Value).toArray) (QcRead (nI (gf_mul (gf_mul a b) c3))) 0 0 (fun _ => False) := by
  refine Met.ofW (cc := cX2_mul3) (maxL := 3) (ret := some .int) (by decide) rfl ?_
  intro p e s m args below meth c s₁ B hml hv
  have hv : args = ([.int (nI a), .int (nI b), .int (nI c3)] : List Value).toArray := hv
  subst hv
  have hx := B.exec
  have hb := B.bytes
  have hr := B.returns
  have hts := atoms_spec (ws := ws_ yX2_mul3 cX2_mul3 3 (some .int)) B.pre
  have hts : ∀ w ∈ lw_all, w.before _ s = true := fun w h => hts w (List.mem_cons_of_mem _ h)
  have hown : s.vm.findClass RX2 = some m.cls := findClass_of_methodNamed B.named
  have hlocks := B.notSynchronized
  have hl := lv_entry ([.int (nI a), .int (nI b), .int (nI c3)]) (n := 3) (Nat.le_of_ble_eq_true rfl)
  rw [lg_entry_eq]
  generalize (lg_sl ([.int (nI a), .int (nI b), .int (nI c3)]) ++ List.replicate (3 - (lg_sl ([.int (nI a), .int (nI b), .int (nI c3)])).length) Slot.unset).toArray = ls at hl ⊢
  have hl : lv_has ls 3 [(0, .int (nI a)), (1, .int (nI b)), (2, .int (nI c3))] := hl
  refine lv_iload_n hx hb dX2_mul3_0 rfl (lv_at hl 0 rfl) ?_
  refine lv_iload_n hx hb dX2_mul3_1 rfl (lv_at hl 1 rfl) ?_
  refine gl_call (W.runS (As := [.int (nI a), .int (nI b)]) (rest := []) ⟨hx, hb, hml, hown, hts⟩ (met_mul l a b ha hb8) (va_cwS 2 hts (lw_S q32 q20 q2 q21) rfl rfl rfl (by decide +kernel) ⟨Nat.le_of_ble_eq_true rfl, Nat.le_of_ble_eq_true rfl⟩) preEq rfl rfl hl.1 rfl (lv_room (Nat.le_of_ble_eq_true rfl)) dX2_mul3_2 ⟨Nat.le_of_ble_eq_true rfl, Nat.le_of_ble_eq_true rfl⟩) ?_
  refine lv_iload_n hx hb dX2_mul3_5 rfl (lv_at hl 2 rfl) ?_
  refine gl_call (W.runS (As := [.int (nI (gf_mul a b)), .int (nI c3)]) (rest := []) ⟨hx, hb, hml, hown, hts⟩ (met_mul l (gf_mul a b) c3 (gf_lt a b) hc8) (va_cwS 2 hts (lw_S q32 q20 q2 q21) rfl rfl rfl (by decide +kernel) ⟨Nat.le_of_ble_eq_true rfl, Nat.le_of_ble_eq_true rfl⟩) preEq rfl rfl hl.1 rfl (lv_room (Nat.le_of_ble_eq_true rfl)) dX2_mul3_6 ⟨Nat.le_of_ble_eq_true rfl, Nat.le_of_ble_eq_true rfl⟩) ?_
  exact W.iret (v := nI (gf_mul (gf_mul a b) c3)) hx hb hr (fun t ht hW => ⟨rfl, ht⟩) (fun _ h => by cases h) dX2_mul3_9
set_option maxHeartbeats 4000000 in
set_option maxRecDepth 100000 in
/-- GF.sqr(a) -/
theorem met_sqr (l : Launch) (a : Nat) (ha : a < 256) : Met l yX2_sqr (ws_ yX2_sqr cX2_sqr 2 (some .int)) ({ frames := 1, cells := 0, slots := 0, locals := 22 } : Room) (fun v _ => v = ([.int (nI a)] : List Value).toArray) (QcRead (nI (gf_sqr a))) 0 0 (fun _ => False) := by
  refine Met.ofW (cc := cX2_sqr) (maxL := 2) (ret := some .int) (by decide) rfl ?_
  intro p e s m args below meth c s₁ B hml hv
  have hv : args = ([.int (nI a)] : List Value).toArray := hv
  subst hv
  have hx := B.exec
  have hb := B.bytes
  have hr := B.returns
  have hts := atoms_spec (ws := ws_ yX2_sqr cX2_sqr 2 (some .int)) B.pre
  have hts : ∀ w ∈ lw_all, w.before _ s = true := fun w h => hts w (List.mem_cons_of_mem _ h)
  have hown : s.vm.findClass RX2 = some m.cls := findClass_of_methodNamed B.named
  have hlocks := B.notSynchronized
  have hl := lv_entry ([.int (nI a)]) (n := 2) (Nat.le_of_ble_eq_true rfl)
  rw [lg_entry_eq]
  generalize (lg_sl ([.int (nI a)]) ++ List.replicate (2 - (lg_sl ([.int (nI a)])).length) Slot.unset).toArray = ls at hl ⊢
  have hl : lv_has ls 2 [(0, .int (nI a))] := hl
  have h1 : gf_s1 a < 2 ^ 15 := Nat.lt_of_le_of_lt Nat.and_le_right (by decide)
  have h2 : gf_s2 (gf_s1 a) < 2 ^ 15 := Nat.lt_of_le_of_lt Nat.and_le_right (by decide)
  have h3 : gf_s3 (gf_s2 (gf_s1 a)) < 2 ^ 15 := Nat.lt_of_le_of_lt Nat.and_le_right (by decide)
  have g1 : a <<< 4 < 2 ^ 31 := by rw [Nat.shiftLeft_eq]; omega
  have g2 : gf_s1 a <<< 2 < 2 ^ 31 := by rw [Nat.shiftLeft_eq]; omega
  have g3 : gf_s2 (gf_s1 a) <<< 1 < 2 ^ 31 := by rw [Nat.shiftLeft_eq]; omega
  refine lv_iload_n hx hb dX2_sqr_0 rfl (lv_at hl 0 rfl) ?_
  refine lv_istore_n (lv' := [(1, .int (nI a)), (0, .int (nI a))]) hx hb dX2_sqr_1 rfl hl (by decide) rfl (fun ls hl => ?_)
  refine lv_iload_n hx hb dX2_sqr_2 rfl (lv_at hl 0 rfl) ?_
  refine lv_iload_n hx hb dX2_sqr_3 rfl (lv_at hl 0 rfl) ?_
  refine lv_iconst (v := nI 4) hx hb dX2_sqr_4 (by decide) ?_
  refine lv_ishl hx hb dX2_sqr_5 ?_
  refine gl_to (y := nI (a <<< 4)) (gl_shl (by decide) g1) ?_
  refine lv_ior hx hb dX2_sqr_6 ?_
  refine gl_to (y := nI (a ||| a <<< 4)) (nx_or _ _) ?_
  refine lv_sipush (v := nI 3855) hx hb dX2_sqr_7 (by decide) ?_
  refine lv_iand hx hb dX2_sqr_10 ?_
  refine gl_to (y := nI (gf_s1 a)) (nx_and _ _) ?_
  refine lv_istore_n (lv' := [(1, .int (nI (gf_s1 a))), (0, .int (nI a))]) hx hb dX2_sqr_11 rfl hl (by decide) rfl (fun ls hl => ?_)
  refine lv_iload_n hx hb dX2_sqr_12 rfl (lv_at hl 0 rfl) ?_
  refine lv_iload_n hx hb dX2_sqr_13 rfl (lv_at hl 0 rfl) ?_
  refine lv_iconst (v := nI 2) hx hb dX2_sqr_14 (by decide) ?_
  refine lv_ishl hx hb dX2_sqr_15 ?_
  refine gl_to (y := nI (gf_s1 a <<< 2)) (gl_shl (by decide) g2) ?_
  refine lv_ior hx hb dX2_sqr_16 ?_
  refine gl_to (y := nI (gf_s1 a ||| gf_s1 a <<< 2)) (nx_or _ _) ?_
  refine lv_sipush (v := nI 13107) hx hb dX2_sqr_17 (by decide) ?_
  refine lv_iand hx hb dX2_sqr_20 ?_
  refine gl_to (y := nI (gf_s2 (gf_s1 a))) (nx_and _ _) ?_
  refine lv_istore_n (lv' := [(1, .int (nI (gf_s2 (gf_s1 a)))), (0, .int (nI a))]) hx hb dX2_sqr_21 rfl hl (by decide) rfl (fun ls hl => ?_)
  refine lv_iload_n hx hb dX2_sqr_22 rfl (lv_at hl 0 rfl) ?_
  refine lv_iload_n hx hb dX2_sqr_23 rfl (lv_at hl 0 rfl) ?_
  refine lv_iconst (v := nI 1) hx hb dX2_sqr_24 (by decide) ?_
  refine lv_ishl hx hb dX2_sqr_25 ?_
  refine gl_to (y := nI (gf_s2 (gf_s1 a) <<< 1)) (gl_shl (by decide) g3) ?_
  refine lv_ior hx hb dX2_sqr_26 ?_
  refine gl_to (y := nI (gf_s2 (gf_s1 a) ||| gf_s2 (gf_s1 a) <<< 1)) (nx_or _ _) ?_
  refine lv_sipush (v := nI 21845) hx hb dX2_sqr_27 (by decide) ?_
  refine lv_iand hx hb dX2_sqr_30 ?_
  refine gl_to (y := nI (gf_s3 (gf_s2 (gf_s1 a)))) (nx_and _ _) ?_
  refine lv_istore_n (lv' := [(1, .int (nI (gf_s3 (gf_s2 (gf_s1 a))))), (0, .int (nI a))]) hx hb dX2_sqr_31 rfl hl (by decide) rfl (fun ls hl => ?_)
  refine lv_iload_n hx hb dX2_sqr_32 rfl (lv_at hl 0 rfl) ?_
  refine gl_call (W.runS (As := [.int (nI (gf_s3 (gf_s2 (gf_s1 a))))]) (rest := []) ⟨hx, hb, hml, hown, hts⟩ (met_reduce l (gf_s3 (gf_s2 (gf_s1 a))) h3) (va_cwS 1 hts (lw_S q22 q23 q2 q24) rfl rfl rfl (by decide +kernel) ⟨Nat.le_of_ble_eq_true rfl, Nat.le_of_ble_eq_true rfl⟩) preEq rfl rfl hl.1 rfl (lv_room (Nat.le_of_ble_eq_true rfl)) dX2_sqr_33 ⟨Nat.le_of_ble_eq_true rfl, Nat.le_of_ble_eq_true rfl⟩) ?_
  exact W.iret (v := nI (gf_rd (gf_s3 (gf_s2 (gf_s1 a))) 7 % 256)) hx hb hr (fun t ht hW => ⟨rfl, ht⟩) (fun _ h => by cases h) dX2_sqr_36
set_option maxHeartbeats 4000000 in
set_option maxRecDepth 100000 in
/-- GF.inv(a): the 254th power -/
theorem met_inv (l : Launch) (a : Nat) (ha : a < 256) : Met l yX2_inv (ws_ yX2_inv cX2_inv 13 (some .int)) ({ frames := 2, cells := 0, slots := 0, locals := 46 } : Room) (fun v _ => v = ([.int (nI a)] : List Value).toArray) (QcRead (nI (gf_inv a))) 0 0 (fun _ => False) := by
  refine Met.ofW (cc := cX2_inv) (maxL := 13) (ret := some .int) (by decide) rfl ?_
  intro p e s m args below meth c s₁ B hml hv
  have hv : args = ([.int (nI a)] : List Value).toArray := hv
  subst hv
  have hx := B.exec
  have hb := B.bytes
  have hr := B.returns
  have hts := atoms_spec (ws := ws_ yX2_inv cX2_inv 13 (some .int)) B.pre
  have hts : ∀ w ∈ lw_all, w.before _ s = true := fun w h => hts w (List.mem_cons_of_mem _ h)
  have hown : s.vm.findClass RX2 = some m.cls := findClass_of_methodNamed B.named
  have hlocks := B.notSynchronized
  have hl := lv_entry ([.int (nI a)]) (n := 13) (Nat.le_of_ble_eq_true rfl)
  rw [lg_entry_eq]
  generalize (lg_sl ([.int (nI a)]) ++ List.replicate (13 - (lg_sl ([.int (nI a)])).length) Slot.unset).toArray = ls at hl ⊢
  have hl : lv_has ls 13 [(0, .int (nI a))] := hl
  obtain ⟨z0, hz0⟩ : ∃ z, z = a := ⟨_, rfl⟩
  have g0 : z0 < 256 := by rw [hz0]; exact ha
  refine lv_iload_n hx hb dX2_inv_0 rfl (lv_at hl 0 rfl) ?_
  refine gl_call (W.runS (As := [.int (nI a)]) (rest := []) ⟨hx, hb, hml, hown, hts⟩ (met_sqr l a ha) (va_cwS 1 hts (lw_S q47 q38 q2 q39) rfl rfl rfl (by decide +kernel) ⟨Nat.le_of_ble_eq_true rfl, Nat.le_of_ble_eq_true rfl⟩) preEq rfl rfl hl.1 rfl (lv_room (Nat.le_of_ble_eq_true rfl)) dX2_inv_1 ⟨Nat.le_of_ble_eq_true rfl, Nat.le_of_ble_eq_true rfl⟩) ?_
  refine lv_istore_n (lv' := [(1, .int (nI (gf_sqr a))), (0, .int (nI a))]) hx hb dX2_inv_4 rfl hl (by decide) rfl (fun ls hl => ?_)
  refine lv_iload_n hx hb dX2_inv_5 rfl (lv_at hl 0 rfl) ?_
  refine lv_iload_n hx hb dX2_inv_6 rfl (lv_at hl 1 rfl) ?_
  refine gl_call (W.runS (As := [.int (nI (gf_sqr a)), .int (nI a)]) (rest := []) ⟨hx, hb, hml, hown, hts⟩ (met_mul l (gf_sqr a) a (gf_sqr_lt _) ha) (va_cwS 2 hts (lw_S q32 q20 q2 q21) rfl rfl rfl (by decide +kernel) ⟨Nat.le_of_ble_eq_true rfl, Nat.le_of_ble_eq_true rfl⟩) preEq rfl rfl hl.1 rfl (lv_room (Nat.le_of_ble_eq_true rfl)) dX2_inv_7 ⟨Nat.le_of_ble_eq_true rfl, Nat.le_of_ble_eq_true rfl⟩) ?_
  obtain ⟨z1, hz1⟩ : ∃ z, z = gf_mul (gf_sqr a) a := ⟨_, rfl⟩
  have g1 : z1 < 256 := by rw [hz1]; exact gf_lt _ _
  refine gl_to (y := nI z1) (by rw [hz1]) ?_
  refine lv_istore_n (lv' := [(2, .int (nI z1)), (1, .int (nI (gf_sqr a))), (0, .int (nI a))]) hx hb dX2_inv_10 rfl hl (by decide) rfl (fun ls hl => ?_)
  refine lv_iload_n hx hb dX2_inv_11 rfl (lv_at hl 0 rfl) ?_
  refine gl_call (W.runS (As := [.int (nI z1)]) (rest := []) ⟨hx, hb, hml, hown, hts⟩ (met_sqr l z1 g1) (va_cwS 1 hts (lw_S q47 q38 q2 q39) rfl rfl rfl (by decide +kernel) ⟨Nat.le_of_ble_eq_true rfl, Nat.le_of_ble_eq_true rfl⟩) preEq rfl rfl hl.1 rfl (lv_room (Nat.le_of_ble_eq_true rfl)) dX2_inv_12 ⟨Nat.le_of_ble_eq_true rfl, Nat.le_of_ble_eq_true rfl⟩) ?_
  refine lv_istore_n (lv' := [(3, .int (nI (gf_sqr z1))), (2, .int (nI z1)), (1, .int (nI (gf_sqr a))), (0, .int (nI a))]) hx hb dX2_inv_15 rfl hl (by decide) rfl (fun ls hl => ?_)
  refine lv_iload_n hx hb dX2_inv_16 rfl (lv_at hl 0 rfl) ?_
  refine lv_iload_n hx hb dX2_inv_17 rfl (lv_at hl 3 rfl) ?_
  refine gl_call (W.runS (As := [.int (nI (gf_sqr z1)), .int (nI a)]) (rest := []) ⟨hx, hb, hml, hown, hts⟩ (met_mul l (gf_sqr z1) a (gf_sqr_lt _) ha) (va_cwS 2 hts (lw_S q32 q20 q2 q21) rfl rfl rfl (by decide +kernel) ⟨Nat.le_of_ble_eq_true rfl, Nat.le_of_ble_eq_true rfl⟩) preEq rfl rfl hl.1 rfl (lv_room (Nat.le_of_ble_eq_true rfl)) dX2_inv_18 ⟨Nat.le_of_ble_eq_true rfl, Nat.le_of_ble_eq_true rfl⟩) ?_
  obtain ⟨z2, hz2⟩ : ∃ z, z = gf_mul (gf_sqr z1) a := ⟨_, rfl⟩
  have g2 : z2 < 256 := by rw [hz2]; exact gf_lt _ _
  refine gl_to (y := nI z2) (by rw [hz2]) ?_
  refine lv_istore (lv' := [(4, .int (nI z2)), (3, .int (nI (gf_sqr z1))), (2, .int (nI z1)), (1, .int (nI (gf_sqr a))), (0, .int (nI a))]) hx hb dX2_inv_21 hl (by decide) rfl (fun ls hl => ?_)
  refine lv_iload hx hb dX2_inv_23 (lv_at hl 0 rfl) ?_
  refine gl_call (W.runS (As := [.int (nI z2)]) (rest := []) ⟨hx, hb, hml, hown, hts⟩ (met_sqr l z2 g2) (va_cwS 1 hts (lw_S q47 q38 q2 q39) rfl rfl rfl (by decide +kernel) ⟨Nat.le_of_ble_eq_true rfl, Nat.le_of_ble_eq_true rfl⟩) preEq rfl rfl hl.1 rfl (lv_room (Nat.le_of_ble_eq_true rfl)) dX2_inv_25 ⟨Nat.le_of_ble_eq_true rfl, Nat.le_of_ble_eq_true rfl⟩) ?_
  refine lv_istore (lv' := [(5, .int (nI (gf_sqr z2))), (4, .int (nI z2)), (3, .int (nI (gf_sqr z1))), (2, .int (nI z1)), (1, .int (nI (gf_sqr a))), (0, .int (nI a))]) hx hb dX2_inv_28 hl (by decide) rfl (fun ls hl => ?_)
  refine lv_iload hx hb dX2_inv_30 (lv_at hl 0 rfl) ?_
  refine lv_iload_n hx hb dX2_inv_32 rfl (lv_at hl 5 rfl) ?_
  refine gl_call (W.runS (As := [.int (nI (gf_sqr z2)), .int (nI a)]) (rest := []) ⟨hx, hb, hml, hown, hts⟩ (met_mul l (gf_sqr z2) a (gf_sqr_lt _) ha) (va_cwS 2 hts (lw_S q32 q20 q2 q21) rfl rfl rfl (by decide +kernel) ⟨Nat.le_of_ble_eq_true rfl, Nat.le_of_ble_eq_true rfl⟩) preEq rfl rfl hl.1 rfl (lv_room (Nat.le_of_ble_eq_true rfl)) dX2_inv_33 ⟨Nat.le_of_ble_eq_true rfl, Nat.le_of_ble_eq_true rfl⟩) ?_
  obtain ⟨z3, hz3⟩ : ∃ z, z = gf_mul (gf_sqr z2) a := ⟨_, rfl⟩
  have g3 : z3 < 256 := by rw [hz3]; exact gf_lt _ _
  refine gl_to (y := nI z3) (by rw [hz3]) ?_
  refine lv_istore (lv' := [(6, .int (nI z3)), (5, .int (nI (gf_sqr z2))), (4, .int (nI z2)), (3, .int (nI (gf_sqr z1))), (2, .int (nI z1)), (1, .int (nI (gf_sqr a))), (0, .int (nI a))]) hx hb dX2_inv_36 hl (by decide) rfl (fun ls hl => ?_)
  refine lv_iload hx hb dX2_inv_38 (lv_at hl 0 rfl) ?_
  refine gl_call (W.runS (As := [.int (nI z3)]) (rest := []) ⟨hx, hb, hml, hown, hts⟩ (met_sqr l z3 g3) (va_cwS 1 hts (lw_S q47 q38 q2 q39) rfl rfl rfl (by decide +kernel) ⟨Nat.le_of_ble_eq_true rfl, Nat.le_of_ble_eq_true rfl⟩) preEq rfl rfl hl.1 rfl (lv_room (Nat.le_of_ble_eq_true rfl)) dX2_inv_40 ⟨Nat.le_of_ble_eq_true rfl, Nat.le_of_ble_eq_true rfl⟩) ?_
  refine lv_istore (lv' := [(7, .int (nI (gf_sqr z3))), (6, .int (nI z3)), (5, .int (nI (gf_sqr z2))), (4, .int (nI z2)), (3, .int (nI (gf_sqr z1))), (2, .int (nI z1)), (1, .int (nI (gf_sqr a))), (0, .int (nI a))]) hx hb dX2_inv_43 hl (by decide) rfl (fun ls hl => ?_)
  refine lv_iload hx hb dX2_inv_45 (lv_at hl 0 rfl) ?_
  refine lv_iload_n hx hb dX2_inv_47 rfl (lv_at hl 7 rfl) ?_
  refine gl_call (W.runS (As := [.int (nI (gf_sqr z3)), .int (nI a)]) (rest := []) ⟨hx, hb, hml, hown, hts⟩ (met_mul l (gf_sqr z3) a (gf_sqr_lt _) ha) (va_cwS 2 hts (lw_S q32 q20 q2 q21) rfl rfl rfl (by decide +kernel) ⟨Nat.le_of_ble_eq_true rfl, Nat.le_of_ble_eq_true rfl⟩) preEq rfl rfl hl.1 rfl (lv_room (Nat.le_of_ble_eq_true rfl)) dX2_inv_48 ⟨Nat.le_of_ble_eq_true rfl, Nat.le_of_ble_eq_true rfl⟩) ?_
  obtain ⟨z4, hz4⟩ : ∃ z, z = gf_mul (gf_sqr z3) a := ⟨_, rfl⟩
  have g4 : z4 < 256 := by rw [hz4]; exact gf_lt _ _
  refine gl_to (y := nI z4) (by rw [hz4]) ?_
  refine lv_istore (lv' := [(8, .int (nI z4)), (7, .int (nI (gf_sqr z3))), (6, .int (nI z3)), (5, .int (nI (gf_sqr z2))), (4, .int (nI z2)), (3, .int (nI (gf_sqr z1))), (2, .int (nI z1)), (1, .int (nI (gf_sqr a))), (0, .int (nI a))]) hx hb dX2_inv_51 hl (by decide) rfl (fun ls hl => ?_)
  refine lv_iload hx hb dX2_inv_53 (lv_at hl 0 rfl) ?_
  refine gl_call (W.runS (As := [.int (nI z4)]) (rest := []) ⟨hx, hb, hml, hown, hts⟩ (met_sqr l z4 g4) (va_cwS 1 hts (lw_S q47 q38 q2 q39) rfl rfl rfl (by decide +kernel) ⟨Nat.le_of_ble_eq_true rfl, Nat.le_of_ble_eq_true rfl⟩) preEq rfl rfl hl.1 rfl (lv_room (Nat.le_of_ble_eq_true rfl)) dX2_inv_55 ⟨Nat.le_of_ble_eq_true rfl, Nat.le_of_ble_eq_true rfl⟩) ?_
  refine lv_istore (lv' := [(9, .int (nI (gf_sqr z4))), (8, .int (nI z4)), (7, .int (nI (gf_sqr z3))), (6, .int (nI z3)), (5, .int (nI (gf_sqr z2))), (4, .int (nI z2)), (3, .int (nI (gf_sqr z1))), (2, .int (nI z1)), (1, .int (nI (gf_sqr a))), (0, .int (nI a))]) hx hb dX2_inv_58 hl (by decide) rfl (fun ls hl => ?_)
  refine lv_iload hx hb dX2_inv_60 (lv_at hl 0 rfl) ?_
  refine lv_iload_n hx hb dX2_inv_62 rfl (lv_at hl 9 rfl) ?_
  refine gl_call (W.runS (As := [.int (nI (gf_sqr z4)), .int (nI a)]) (rest := []) ⟨hx, hb, hml, hown, hts⟩ (met_mul l (gf_sqr z4) a (gf_sqr_lt _) ha) (va_cwS 2 hts (lw_S q32 q20 q2 q21) rfl rfl rfl (by decide +kernel) ⟨Nat.le_of_ble_eq_true rfl, Nat.le_of_ble_eq_true rfl⟩) preEq rfl rfl hl.1 rfl (lv_room (Nat.le_of_ble_eq_true rfl)) dX2_inv_63 ⟨Nat.le_of_ble_eq_true rfl, Nat.le_of_ble_eq_true rfl⟩) ?_
  obtain ⟨z5, hz5⟩ : ∃ z, z = gf_mul (gf_sqr z4) a := ⟨_, rfl⟩
  have g5 : z5 < 256 := by rw [hz5]; exact gf_lt _ _
  refine gl_to (y := nI z5) (by rw [hz5]) ?_
  refine lv_istore (lv' := [(10, .int (nI z5)), (9, .int (nI (gf_sqr z4))), (8, .int (nI z4)), (7, .int (nI (gf_sqr z3))), (6, .int (nI z3)), (5, .int (nI (gf_sqr z2))), (4, .int (nI z2)), (3, .int (nI (gf_sqr z1))), (2, .int (nI z1)), (1, .int (nI (gf_sqr a))), (0, .int (nI a))]) hx hb dX2_inv_66 hl (by decide) rfl (fun ls hl => ?_)
  refine lv_iload hx hb dX2_inv_68 (lv_at hl 0 rfl) ?_
  refine gl_call (W.runS (As := [.int (nI z5)]) (rest := []) ⟨hx, hb, hml, hown, hts⟩ (met_sqr l z5 g5) (va_cwS 1 hts (lw_S q47 q38 q2 q39) rfl rfl rfl (by decide +kernel) ⟨Nat.le_of_ble_eq_true rfl, Nat.le_of_ble_eq_true rfl⟩) preEq rfl rfl hl.1 rfl (lv_room (Nat.le_of_ble_eq_true rfl)) dX2_inv_70 ⟨Nat.le_of_ble_eq_true rfl, Nat.le_of_ble_eq_true rfl⟩) ?_
  refine lv_istore (lv' := [(11, .int (nI (gf_sqr z5))), (10, .int (nI z5)), (9, .int (nI (gf_sqr z4))), (8, .int (nI z4)), (7, .int (nI (gf_sqr z3))), (6, .int (nI z3)), (5, .int (nI (gf_sqr z2))), (4, .int (nI z2)), (3, .int (nI (gf_sqr z1))), (2, .int (nI z1)), (1, .int (nI (gf_sqr a))), (0, .int (nI a))]) hx hb dX2_inv_73 hl (by decide) rfl (fun ls hl => ?_)
  refine lv_iload hx hb dX2_inv_75 (lv_at hl 0 rfl) ?_
  refine lv_iload_n hx hb dX2_inv_77 rfl (lv_at hl 11 rfl) ?_
  refine gl_call (W.runS (As := [.int (nI (gf_sqr z5)), .int (nI a)]) (rest := []) ⟨hx, hb, hml, hown, hts⟩ (met_mul l (gf_sqr z5) a (gf_sqr_lt _) ha) (va_cwS 2 hts (lw_S q32 q20 q2 q21) rfl rfl rfl (by decide +kernel) ⟨Nat.le_of_ble_eq_true rfl, Nat.le_of_ble_eq_true rfl⟩) preEq rfl rfl hl.1 rfl (lv_room (Nat.le_of_ble_eq_true rfl)) dX2_inv_78 ⟨Nat.le_of_ble_eq_true rfl, Nat.le_of_ble_eq_true rfl⟩) ?_
  obtain ⟨z6, hz6⟩ : ∃ z, z = gf_mul (gf_sqr z5) a := ⟨_, rfl⟩
  have g6 : z6 < 256 := by rw [hz6]; exact gf_lt _ _
  refine gl_to (y := nI z6) (by rw [hz6]) ?_
  refine lv_istore (lv' := [(12, .int (nI z6)), (11, .int (nI (gf_sqr z5))), (10, .int (nI z5)), (9, .int (nI (gf_sqr z4))), (8, .int (nI z4)), (7, .int (nI (gf_sqr z3))), (6, .int (nI z3)), (5, .int (nI (gf_sqr z2))), (4, .int (nI z2)), (3, .int (nI (gf_sqr z1))), (2, .int (nI z1)), (1, .int (nI (gf_sqr a))), (0, .int (nI a))]) hx hb dX2_inv_81 hl (by decide) rfl (fun ls hl => ?_)
  refine lv_iload hx hb dX2_inv_83 (lv_at hl 0 rfl) ?_
  refine gl_call (W.runS (As := [.int (nI z6)]) (rest := []) ⟨hx, hb, hml, hown, hts⟩ (met_sqr l z6 g6) (va_cwS 1 hts (lw_S q47 q38 q2 q39) rfl rfl rfl (by decide +kernel) ⟨Nat.le_of_ble_eq_true rfl, Nat.le_of_ble_eq_true rfl⟩) preEq rfl rfl hl.1 rfl (lv_room (Nat.le_of_ble_eq_true rfl)) dX2_inv_85 ⟨Nat.le_of_ble_eq_true rfl, Nat.le_of_ble_eq_true rfl⟩) ?_
  have hz : gf_inv a = gf_sqr z6 := by rw [hz6, hz5, hz4, hz3, hz2, hz1]; rfl
  exact W.iret (v := nI (gf_sqr z6)) hx hb hr (fun t ht hW => ⟨by rw [hz], ht⟩) (fun _ h => by cases h) dX2_inv_88
set_option maxHeartbeats 4000000 in
set_option maxRecDepth 100000 in
/-- GF.div(a, b) -/
theorem met_div (l : Launch) (a b : Nat) (ha : a < 256) (hb8 : b < 256) : Met l yX2_div (ws_ yX2_div cX2_div 2 (some .int)) ({ frames := 3, cells := 0, slots := 0, locals := 78 } : Room) (fun v _ => v = ([.int (nI a), .int (nI b)] : List Value).toArray) (QcRead (nI (gf_mul a (gf_inv b)))) 0 0 (fun _ => False) := by
  refine Met.ofW (cc := cX2_div) (maxL := 2) (ret := some .int) (by decide) rfl ?_
  intro p e s m args below meth c s₁ B hml hv
  have hv : args = ([.int (nI a), .int (nI b)] : List Value).toArray := hv
  subst hv
  have hx := B.exec
  have hb := B.bytes
  have hr := B.returns
  have hts := atoms_spec (ws := ws_ yX2_div cX2_div 2 (some .int)) B.pre
  have hts : ∀ w ∈ lw_all, w.before _ s = true := fun w h => hts w (List.mem_cons_of_mem _ h)
  have hown : s.vm.findClass RX2 = some m.cls := findClass_of_methodNamed B.named
  have hlocks := B.notSynchronized
  have hl := lv_entry ([.int (nI a), .int (nI b)]) (n := 2) (Nat.le_of_ble_eq_true rfl)
  rw [lg_entry_eq]
  generalize (lg_sl ([.int (nI a), .int (nI b)]) ++ List.replicate (2 - (lg_sl ([.int (nI a), .int (nI b)])).length) Slot.unset).toArray = ls at hl ⊢
  have hl : lv_has ls 2 [(0, .int (nI a)), (1, .int (nI b))] := hl
  refine lv_iload_n hx hb dX2_div_0 rfl (lv_at hl 0 rfl) ?_
  refine lv_iload_n hx hb dX2_div_1 rfl (lv_at hl 1 rfl) ?_
  refine gl_call (W.runS (As := [.int (nI b)]) (rest := [.int (nI a)]) ⟨hx, hb, hml, hown, hts⟩ (met_inv l b hb8) (va_cwS 1 hts (lw_S q55 q45 q2 q46) rfl rfl rfl (by decide +kernel) ⟨Nat.le_of_ble_eq_true rfl, Nat.le_of_ble_eq_true rfl⟩) preEq rfl rfl hl.1 rfl (lv_room (Nat.le_of_ble_eq_true rfl)) dX2_div_2 ⟨Nat.le_of_ble_eq_true rfl, Nat.le_of_ble_eq_true rfl⟩) ?_
  refine gl_call (W.runS (As := [.int (nI a), .int (nI (gf_inv b))]) (rest := []) ⟨hx, hb, hml, hown, hts⟩ (met_mul l a (gf_inv b) ha (gf_inv_lt b)) (va_cwS 2 hts (lw_S q32 q20 q2 q21) rfl rfl rfl (by decide +kernel) ⟨Nat.le_of_ble_eq_true rfl, Nat.le_of_ble_eq_true rfl⟩) preEq rfl rfl hl.1 rfl (lv_room (Nat.le_of_ble_eq_true rfl)) dX2_div_5 ⟨Nat.le_of_ble_eq_true rfl, Nat.le_of_ble_eq_true rfl⟩) ?_
  exact W.iret (v := nI (gf_mul a (gf_inv b))) hx hb hr (fun t ht hW => ⟨rfl, ht⟩) (fun _ h => by cases h) dX2_div_8
end
section
/-! ByteField: times, timesThree, square, inverse, divide read nothing of the object; power reads its field; init, hold, fold write it -/
abbrev vwCl : List vw_C := [(RX1, TX1, 1)]
/-- behind init, hold, fold: the object with the field u -/
abbrev BX1 (dC : Nat → ClassId) (dI : Nat → Nat → Nat) (A : Nat → Prop) (h0 : Nat) (u : Int32) (t : State) : Prop := va_P (dC, dI) vwCl [(h0, .inr (0, [.int u]))] t.heap ∧ va_K (dC, dI) vwCl [] t ∧ va_D A [(h0, .inr (0, [.int u]))]
set_option maxHeartbeats 4000000 in
set_option maxRecDepth 100000 in
/-- times(a, b) -/
theorem met_times (l : Launch) (h0 : Nat) (a b : Int32) : Met l yX1_times (ws_ yX1_times cX1_times 3 (some .int)) ({ frames := 2, cells := 0, slots := 0, locals := 46 } : Room) (fun v _ => v = ([.ref h0, .int a, .int b] : List Value).toArray) (QcRead (nI (gf_mul (gl_lo a) (gl_lo b)))) 0 0 (fun _ => False) := by
  refine Met.ofW (cc := cX1_times) (maxL := 3) (ret := some .int) (by decide) rfl ?_
  intro p e s m args below meth c s₁ B hml hv
  have hv : args = ([.ref h0, .int a, .int b] : List Value).toArray := hv
  subst hv
  have hx := B.exec
  have hb := B.bytes
  have hr := B.returns
  have hts := atoms_spec (ws := ws_ yX1_times cX1_times 3 (some .int)) B.pre
  have hts : ∀ w ∈ lw_all, w.before _ s = true := fun w h => hts w (List.mem_cons_of_mem _ h)
  have hown : s.vm.findClass RX1 = some m.cls := findClass_of_methodNamed B.named
  have hlocks := B.notSynchronized
  have hl := lv_entry ([.ref h0, .int a, .int b]) (n := 3) (Nat.le_of_ble_eq_true rfl)
  rw [lg_entry_eq]
  generalize (lg_sl ([.ref h0, .int a, .int b]) ++ List.replicate (3 - (lg_sl ([.ref h0, .int a, .int b])).length) Slot.unset).toArray = ls at hl ⊢
  have hl : lv_has ls 3 [(0, .ref h0), (1, .int a), (2, .int b)] := hl
  refine lv_iload_n hx hb dX1_times_0 rfl (lv_at hl 1 rfl) ?_
  refine lv_sipush (v := nI 255) hx hb dX1_times_1 (by decide) ?_
  refine lv_iand hx hb dX1_times_4 ?_
  refine gl_to (y := nI (gl_lo a)) (gl_and _) ?_
  refine lv_iload_n hx hb dX1_times_5 rfl (lv_at hl 2 rfl) ?_
  refine lv_sipush (v := nI 255) hx hb dX1_times_6 (by decide) ?_
  refine lv_iand hx hb dX1_times_9 ?_
  refine gl_to (y := nI (gl_lo b)) (gl_and _) ?_
  refine gl_call (W.runS (As := [.int (nI (gl_lo a)), .int (nI (gl_lo b))]) (rest := []) ⟨hx, hb, hml, hown, hts⟩ (met_mul l (gl_lo a) (gl_lo b) (gl_lo_lt a) (gl_lo_lt b)) (va_cwS 2 hts (lw_S q19 q20 q2 q21) rfl rfl rfl (by decide +kernel) ⟨Nat.le_of_ble_eq_true rfl, Nat.le_of_ble_eq_true rfl⟩) preEq rfl rfl hl.1 rfl (lv_room (Nat.le_of_ble_eq_true rfl)) dX1_times_10 ⟨Nat.le_of_ble_eq_true rfl, Nat.le_of_ble_eq_true rfl⟩) ?_
  exact W.iret (v := nI (gf_mul (gl_lo a) (gl_lo b))) hx hb hr (fun t ht hW => ⟨rfl, ht⟩) (fun _ h => by cases h) dX1_times_13
set_option maxHeartbeats 4000000 in
set_option maxRecDepth 100000 in
/-- timesThree(a, b, c) -/
theorem met_timesThree (l : Launch) (h0 : Nat) (a b c3 : Int32) : Met l yX1_timesThree (ws_ yX1_timesThree cX1_timesThree 4 (some .int)) ({ frames := 3, cells := 0, slots := 0, locals := 68 } : Room) (fun v _ => v = ([.ref h0, .int a, .int b, .int c3] : List Value).toArray) (QcRead (nI (gf_mul (gf_mul (gl_lo a) (gl_lo b)) (gl_lo c3)))) 0 0 (fun _ => False) := by
  refine Met.ofW (cc := cX1_timesThree) (maxL := 4) (ret := some .int) (by decide) rfl ?_
  intro p e s m args below meth c s₁ B hml hv
  have hv : args = ([.ref h0, .int a, .int b, .int c3] : List Value).toArray := hv
  subst hv
  have hx := B.exec
  have hb := B.bytes
  have hr := B.returns
  have hts := atoms_spec (ws := ws_ yX1_timesThree cX1_timesThree 4 (some .int)) B.pre
  have hts : ∀ w ∈ lw_all, w.before _ s = true := fun w h => hts w (List.mem_cons_of_mem _ h)
  have hown : s.vm.findClass RX1 = some m.cls := findClass_of_methodNamed B.named
  have hlocks := B.notSynchronized
  have hl := lv_entry ([.ref h0, .int a, .int b, .int c3]) (n := 4) (Nat.le_of_ble_eq_true rfl)
  rw [lg_entry_eq]
  generalize (lg_sl ([.ref h0, .int a, .int b, .int c3]) ++ List.replicate (4 - (lg_sl ([.ref h0, .int a, .int b, .int c3])).length) Slot.unset).toArray = ls at hl ⊢
  have hl : lv_has ls 4 [(0, .ref h0), (1, .int a), (2, .int b), (3, .int c3)] := hl
  refine lv_iload_n hx hb dX1_timesThree_0 rfl (lv_at hl 1 rfl) ?_
  refine lv_sipush (v := nI 255) hx hb dX1_timesThree_1 (by decide) ?_
  refine lv_iand hx hb dX1_timesThree_4 ?_
  refine gl_to (y := nI (gl_lo a)) (gl_and _) ?_
  refine lv_iload_n hx hb dX1_timesThree_5 rfl (lv_at hl 2 rfl) ?_
  refine lv_sipush (v := nI 255) hx hb dX1_timesThree_6 (by decide) ?_
  refine lv_iand hx hb dX1_timesThree_9 ?_
  refine gl_to (y := nI (gl_lo b)) (gl_and _) ?_
  refine lv_iload_n hx hb dX1_timesThree_10 rfl (lv_at hl 3 rfl) ?_
  refine lv_sipush (v := nI 255) hx hb dX1_timesThree_11 (by decide) ?_
  refine lv_iand hx hb dX1_timesThree_14 ?_
  refine gl_to (y := nI (gl_lo c3)) (gl_and _) ?_
  refine gl_call (W.runS (As := [.int (nI (gl_lo a)), .int (nI (gl_lo b)), .int (nI (gl_lo c3))]) (rest := []) ⟨hx, hb, hml, hown, hts⟩ (met_mul3 l (gl_lo a) (gl_lo b) (gl_lo c3) (gl_lo_lt a) (gl_lo_lt b) (gl_lo_lt c3)) (va_cwS 3 hts (lw_S q29 q30 q2 q31) rfl rfl rfl (by decide +kernel) ⟨Nat.le_of_ble_eq_true rfl, Nat.le_of_ble_eq_true rfl⟩) preEq rfl rfl hl.1 rfl (lv_room (Nat.le_of_ble_eq_true rfl)) dX1_timesThree_15 ⟨Nat.le_of_ble_eq_true rfl, Nat.le_of_ble_eq_true rfl⟩) ?_
  exact W.iret (v := nI (gf_mul (gf_mul (gl_lo a) (gl_lo b)) (gl_lo c3))) hx hb hr (fun t ht hW => ⟨rfl, ht⟩) (fun _ h => by cases h) dX1_timesThree_18
set_option maxHeartbeats 4000000 in
set_option maxRecDepth 100000 in
/-- square(a) -/
theorem met_square (l : Launch) (h0 : Nat) (a : Int32) : Met l yX1_square (ws_ yX1_square cX1_square 2 (some .int)) ({ frames := 2, cells := 0, slots := 0, locals := 43 } : Room) (fun v _ => v = ([.ref h0, .int a] : List Value).toArray) (QcRead (nI (gf_sqr (gl_lo a)))) 0 0 (fun _ => False) := by
  refine Met.ofW (cc := cX1_square) (maxL := 2) (ret := some .int) (by decide) rfl ?_
  intro p e s m args below meth c s₁ B hml hv
  have hv : args = ([.ref h0, .int a] : List Value).toArray := hv
  subst hv
  have hx := B.exec
  have hb := B.bytes
  have hr := B.returns
  have hts := atoms_spec (ws := ws_ yX1_square cX1_square 2 (some .int)) B.pre
  have hts : ∀ w ∈ lw_all, w.before _ s = true := fun w h => hts w (List.mem_cons_of_mem _ h)
  have hown : s.vm.findClass RX1 = some m.cls := findClass_of_methodNamed B.named
  have hlocks := B.notSynchronized
  have hl := lv_entry ([.ref h0, .int a]) (n := 2) (Nat.le_of_ble_eq_true rfl)
  rw [lg_entry_eq]
  generalize (lg_sl ([.ref h0, .int a]) ++ List.replicate (2 - (lg_sl ([.ref h0, .int a])).length) Slot.unset).toArray = ls at hl ⊢
  have hl : lv_has ls 2 [(0, .ref h0), (1, .int a)] := hl
  refine lv_iload_n hx hb dX1_square_0 rfl (lv_at hl 1 rfl) ?_
  refine lv_sipush (v := nI 255) hx hb dX1_square_1 (by decide) ?_
  refine lv_iand hx hb dX1_square_4 ?_
  refine gl_to (y := nI (gl_lo a)) (gl_and _) ?_
  refine gl_call (W.runS (As := [.int (nI (gl_lo a))]) (rest := []) ⟨hx, hb, hml, hown, hts⟩ (met_sqr l (gl_lo a) (gl_lo_lt a)) (va_cwS 1 hts (lw_S q37 q38 q2 q39) rfl rfl rfl (by decide +kernel) ⟨Nat.le_of_ble_eq_true rfl, Nat.le_of_ble_eq_true rfl⟩) preEq rfl rfl hl.1 rfl (lv_room (Nat.le_of_ble_eq_true rfl)) dX1_square_5 ⟨Nat.le_of_ble_eq_true rfl, Nat.le_of_ble_eq_true rfl⟩) ?_
  exact W.iret (v := nI (gf_sqr (gl_lo a))) hx hb hr (fun t ht hW => ⟨rfl, ht⟩) (fun _ h => by cases h) dX1_square_8
/-- -1 for the inverse of 0 -/
def gl_inv (n : Nat) : Int32 := if n = 0 then -1 else nI (gf_inv n)
set_option maxHeartbeats 4000000 in
set_option maxRecDepth 100000 in
/-- inverse(a): -1 for 0 -/
theorem met_inverse (l : Launch) (h0 : Nat) (a : Int32) : Met l yX1_inverse (ws_ yX1_inverse cX1_inverse 2 (some .int)) ({ frames := 3, cells := 0, slots := 0, locals := 78 } : Room) (fun v _ => v = ([.ref h0, .int a] : List Value).toArray) (QcRead (gl_inv (gl_lo a))) 0 0 (fun _ => False) := by
  refine Met.ofW (cc := cX1_inverse) (maxL := 2) (ret := some .int) (by decide) rfl ?_
  intro p e s m args below meth c s₁ B hml hv
  have hv : args = ([.ref h0, .int a] : List Value).toArray := hv
  subst hv
  have hx := B.exec
  have hb := B.bytes
  have hr := B.returns
  have hts := atoms_spec (ws := ws_ yX1_inverse cX1_inverse 2 (some .int)) B.pre
  have hts : ∀ w ∈ lw_all, w.before _ s = true := fun w h => hts w (List.mem_cons_of_mem _ h)
  have hown : s.vm.findClass RX1 = some m.cls := findClass_of_methodNamed B.named
  have hlocks := B.notSynchronized
  have hl := lv_entry ([.ref h0, .int a]) (n := 2) (Nat.le_of_ble_eq_true rfl)
  rw [lg_entry_eq]
  generalize (lg_sl ([.ref h0, .int a]) ++ List.replicate (2 - (lg_sl ([.ref h0, .int a])).length) Slot.unset).toArray = ls at hl ⊢
  have hl : lv_has ls 2 [(0, .ref h0), (1, .int a)] := hl
  have hlo := gl_lo_lt a
  refine lv_iload_n hx hb dX1_inverse_0 rfl (lv_at hl 1 rfl) ?_
  refine lv_sipush (v := nI 255) hx hb dX1_inverse_1 (by decide) ?_
  refine lv_iand hx hb dX1_inverse_4 ?_
  refine gl_to (y := nI (gl_lo a)) (gl_and _) ?_
  refine lv_if_ne (tgt := 12) hx hb dX1_inverse_5 (by decide) (fun c_5 => ?_) (fun c_5 => ?_)
  · have h0n : gl_lo a ≠ 0 := fun h => c_5 (by rw [h]; exact nI_0)
    refine lv_iload_n hx hb dX1_inverse_12 rfl (lv_at hl 1 rfl) ?_
    refine lv_sipush (v := nI 255) hx hb dX1_inverse_13 (by decide) ?_
    refine lv_iand hx hb dX1_inverse_16 ?_
    refine gl_to (y := nI (gl_lo a)) (gl_and _) ?_
    refine gl_call (W.runS (As := [.int (nI (gl_lo a))]) (rest := []) ⟨hx, hb, hml, hown, hts⟩ (met_inv l (gl_lo a) (gl_lo_lt a)) (va_cwS 1 hts (lw_S q44 q45 q2 q46) rfl rfl rfl (by decide +kernel) ⟨Nat.le_of_ble_eq_true rfl, Nat.le_of_ble_eq_true rfl⟩) preEq rfl rfl hl.1 rfl (lv_room (Nat.le_of_ble_eq_true rfl)) dX1_inverse_17 ⟨Nat.le_of_ble_eq_true rfl, Nat.le_of_ble_eq_true rfl⟩) ?_
    have hres : gl_inv (gl_lo a) = nI (gf_inv (gl_lo a)) := if_neg h0n
    exact W.iret (v := nI (gf_inv (gl_lo a))) hx hb hr (fun t ht hW => ⟨by rw [hres], ht⟩) (fun _ h => by cases h) dX1_inverse_20
  · have h0n : gl_lo a = 0 := (nI_eq (by omega) (by decide)).mp (c_5.trans nI_0.symm)
    refine lv_iconst (v := (-1)) hx hb dX1_inverse_8 (by decide) ?_
    refine lv_goto (tgt := 20) hx hb dX1_inverse_9 (by decide) ?_
    have hres : gl_inv (gl_lo a) = -1 := if_pos h0n
    exact W.iret (v := -1) hx hb hr (fun t ht hW => ⟨by rw [hres], ht⟩) (fun _ h => by cases h) dX1_inverse_20
/-- -1 for a division by 0 -/
def gl_div (a b : Nat) : Int32 := if b = 0 then -1 else nI (gf_mul a (gf_inv b))
set_option maxHeartbeats 4000000 in
set_option maxRecDepth 100000 in
/-- divide(a, b): -1 where b is 0 -/
theorem met_divide (l : Launch) (h0 : Nat) (a b : Int32) : Met l yX1_divide (ws_ yX1_divide cX1_divide 3 (some .int)) ({ frames := 4, cells := 0, slots := 0, locals := 99 } : Room) (fun v _ => v = ([.ref h0, .int a, .int b] : List Value).toArray) (QcRead (gl_div (gl_lo a) (gl_lo b))) 0 0 (fun _ => False) := by
  refine Met.ofW (cc := cX1_divide) (maxL := 3) (ret := some .int) (by decide) rfl ?_
  intro p e s m args below meth c s₁ B hml hv
  have hv : args = ([.ref h0, .int a, .int b] : List Value).toArray := hv
  subst hv
  have hx := B.exec
  have hb := B.bytes
  have hr := B.returns
  have hts := atoms_spec (ws := ws_ yX1_divide cX1_divide 3 (some .int)) B.pre
  have hts : ∀ w ∈ lw_all, w.before _ s = true := fun w h => hts w (List.mem_cons_of_mem _ h)
  have hown : s.vm.findClass RX1 = some m.cls := findClass_of_methodNamed B.named
  have hlocks := B.notSynchronized
  have hl := lv_entry ([.ref h0, .int a, .int b]) (n := 3) (Nat.le_of_ble_eq_true rfl)
  rw [lg_entry_eq]
  generalize (lg_sl ([.ref h0, .int a, .int b]) ++ List.replicate (3 - (lg_sl ([.ref h0, .int a, .int b])).length) Slot.unset).toArray = ls at hl ⊢
  have hl : lv_has ls 3 [(0, .ref h0), (1, .int a), (2, .int b)] := hl
  have hlo := gl_lo_lt b
  refine lv_iload_n hx hb dX1_divide_0 rfl (lv_at hl 2 rfl) ?_
  refine lv_sipush (v := nI 255) hx hb dX1_divide_1 (by decide) ?_
  refine lv_iand hx hb dX1_divide_4 ?_
  refine gl_to (y := nI (gl_lo b)) (gl_and _) ?_
  refine lv_if_ne (tgt := 12) hx hb dX1_divide_5 (by decide) (fun c_5 => ?_) (fun c_5 => ?_)
  · have h0n : gl_lo b ≠ 0 := fun h => c_5 (by rw [h]; exact nI_0)
    refine lv_iload_n hx hb dX1_divide_12 rfl (lv_at hl 1 rfl) ?_
    refine lv_sipush (v := nI 255) hx hb dX1_divide_13 (by decide) ?_
    refine lv_iand hx hb dX1_divide_16 ?_
    refine gl_to (y := nI (gl_lo a)) (gl_and _) ?_
    refine lv_iload_n hx hb dX1_divide_17 rfl (lv_at hl 2 rfl) ?_
    refine lv_sipush (v := nI 255) hx hb dX1_divide_18 (by decide) ?_
    refine lv_iand hx hb dX1_divide_21 ?_
    refine gl_to (y := nI (gl_lo b)) (gl_and _) ?_
    refine gl_call (W.runS (As := [.int (nI (gl_lo a)), .int (nI (gl_lo b))]) (rest := []) ⟨hx, hb, hml, hown, hts⟩ (met_div l (gl_lo a) (gl_lo b) (gl_lo_lt a) (gl_lo_lt b)) (va_cwS 2 hts (lw_S q52 q53 q2 q54) rfl rfl rfl (by decide +kernel) ⟨Nat.le_of_ble_eq_true rfl, Nat.le_of_ble_eq_true rfl⟩) preEq rfl rfl hl.1 rfl (lv_room (Nat.le_of_ble_eq_true rfl)) dX1_divide_22 ⟨Nat.le_of_ble_eq_true rfl, Nat.le_of_ble_eq_true rfl⟩) ?_
    have hres : gl_div (gl_lo a) (gl_lo b) = nI (gf_mul (gl_lo a) (gf_inv (gl_lo b))) := if_neg h0n
    exact W.iret (v := nI (gf_mul (gl_lo a) (gf_inv (gl_lo b)))) hx hb hr (fun t ht hW => ⟨by rw [hres], ht⟩) (fun _ h => by cases h) dX1_divide_25
  · have h0n : gl_lo b = 0 := (nI_eq (by omega) (by decide)).mp (c_5.trans nI_0.symm)
    refine lv_iconst (v := (-1)) hx hb dX1_divide_8 (by decide) ?_
    refine lv_goto (tgt := 25) hx hb dX1_divide_9 (by decide) ?_
    have hres : gl_div (gl_lo a) (gl_lo b) = -1 := if_pos h0n
    exact W.iret (v := -1) hx hb hr (fun t ht hW => ⟨by rw [hres], ht⟩) (fun _ h => by cases h) dX1_divide_25
set_option maxHeartbeats 4000000 in
set_option maxRecDepth 100000 in
/-- power(n): the held element to the power n & 255; nothing is changed -/
theorem met_bpower (l : Launch) (dC : Nat → ClassId) (dI : Nat → Nat → Nat) (h0 : Nat) (f : Nat) (hf : f < 256) (n : Int32) : Met l yX1_power (ws_ yX1_power cX1_power 5 (some .int)) ({ frames := 2, cells := 0, slots := 0, locals := 46 } : Room) (va_Pc [.ref h0, .int n] (fun U => va_P (dC, dI) vwCl [(h0, .inr (0, [.int (nI f)]))] U.heap ∧ va_K (dC, dI) vwCl [] U)) (QcRead (nI (gf_pow f (gl_lo n)))) 0 0 (fun _ => False) := by
  refine Met.ofW (cc := cX1_power) (maxL := 5) (ret := some .int) (by decide) rfl ?_
  intro p e s m args below meth c s₁ B hml hv
  obtain ⟨rfl, hP, hK⟩ := hv
  have hx := B.exec
  have hb := B.bytes
  have hr := B.returns
  have hts := atoms_spec (ws := ws_ yX1_power cX1_power 5 (some .int)) B.pre
  have hts : ∀ w ∈ lw_all, w.before _ s = true := fun w h => hts w (List.mem_cons_of_mem _ h)
  have hown : s.vm.findClass RX1 = some m.cls := findClass_of_methodNamed B.named
  have hlocks := B.notSynchronized
  have hl := lv_entry ([.ref h0, .int n]) (n := 5) (Nat.le_of_ble_eq_true rfl)
  rw [lg_entry_eq]
  generalize (lg_sl ([.ref h0, .int n]) ++ List.replicate (5 - (lg_sl ([.ref h0, .int n])).length) Slot.unset).toArray = ls at hl ⊢
  have hl : lv_has ls 5 [(0, .ref h0), (1, .int n)] := hl
  refine lv_iconst (v := nI 1) hx hb dX1_power_0 (by decide) ?_
  refine lv_istore_n (lv' := [(2, .int (nI 1)), (0, .ref h0), (1, .int n)]) hx hb dX1_power_1 rfl hl (by decide) rfl (fun ls hl => ?_)
  refine lv_aload_n hx hb dX1_power_2 rfl (lv_at hl 1 rfl) ?_
  refine va_get (D := (dC, dI)) (ci := 0) (v := .int (nI f)) (C := RX1) (T := TX1) (N := 1) hx hb hts in_X1 hown hK hP 0 rfl rfl 0 (by decide) (hts _ q11) (fun _ h9 => h9) rfl dX1_power_3 ?_
  refine lv_istore_n (lv' := [(3, .int (nI f)), (2, .int (nI 1)), (0, .ref h0), (1, .int n)]) hx hb dX1_power_6 rfl hl (by decide) rfl (fun ls hl => ?_)
  refine lv_iload_n hx hb dX1_power_7 rfl (lv_at hl 3 rfl) ?_
  refine lv_sipush (v := nI 255) hx hb dX1_power_8 (by decide) ?_
  refine lv_iand hx hb dX1_power_11 ?_
  refine gl_to (y := nI (gl_lo n)) (gl_and _) ?_
  refine lv_istore (lv' := [(4, .int (nI (gl_lo n))), (3, .int (nI f)), (2, .int (nI 1)), (0, .ref h0), (1, .int n)]) hx hb dX1_power_12 hl (by decide) rfl (fun ls hl => ?_)
  obtain ⟨k0, hk0⟩ : ∃ k, k = gl_lo n := ⟨_, rfl⟩
  have hk8 : k0 < 256 := by rw [hk0]; exact gl_lo_lt n
  rw [← hk0] at hl ⊢
  refine gl_loop (pc := 14) (nL := 5) (fun i => [(0, .ref h0), (2, .int (nI (gf_zs f k0 i))), (3, .int (nI (gf_xs f i))), (4, .int (nI (k0 >>> i)))]) (fun _ => True) 8 ?_ ?_ ls trivial (lv_sub hl [3, 2, 1, 0] rfl)
  · intro i hi _ ih ls hl
    have hl : lv_has ls 5 [(0, .ref h0), (2, .int (nI (gf_zs f k0 i))), (3, .int (nI (gf_xs f i))), (4, .int (nI (k0 >>> i)))] := hl
    have hle : k0 >>> i ≤ k0 := by rw [Nat.shiftRight_eq_div_pow]; exact Nat.div_le_self _ _
    have hz := gf_zs_lt f k0 i
    have hxi := gf_xs_lt hf i
    refine lv_iload hx hb dX1_power_14 (lv_at hl 3 rfl) ?_
    refine lv_if_le (tgt := 47) hx hb dX1_power_16 (by decide) (fun c_16 => ?_) (fun c_16 => ?_)
    · have hk : k0 >>> i = 0 := by
        rw [← nI_0, nI_leI (by omega) (by decide)] at c_16
        exact Nat.le_zero.mp c_16
      have hres := gf_sq_end (n := k0) (i := i) hf hk
      refine lv_iload_n hx hb dX1_power_47 rfl (lv_at hl 1 rfl) ?_
      exact W.iret (v := nI (gf_zs f k0 i)) hx hb hr (fun t ht hW => ⟨by rw [hres], ht⟩) (fun _ h => by cases h) dX1_power_48
    · refine lv_iload hx hb dX1_power_19 (lv_at hl 3 rfl) ?_
      refine lv_iconst (v := nI 1) hx hb dX1_power_21 (by decide) ?_
      refine lv_iand hx hb dX1_power_22 ?_
      refine gl_to (y := nI (k0.testBit i).toNat) (gl_bit _ _) ?_
      refine lv_iconst (v := nI 1) hx hb dX1_power_23 (by decide) ?_
      refine gl_meet (nL := 5) 33 [(0, .ref h0), (2, .int (nI (gf_zs f k0 (i + 1)))), (3, .int (nI (gf_xs f i))), (4, .int (nI (k0 >>> i)))] [] ?_ (fun hmeet => ?_)
      · intro ls hl
        refine lv_iload_n hx hb dX1_power_33 rfl (lv_at hl 2 rfl) ?_
        refine gl_call (W.runS (As := [.int (nI (gf_xs f i))]) (rest := []) ⟨hx, hb, hml, hown, hts⟩ (met_sqr l (gf_xs f i) hxi) (va_cwS 1 hts (lw_S q37 q38 q2 q39) rfl rfl rfl (by decide +kernel) ⟨Nat.le_of_ble_eq_true rfl, Nat.le_of_ble_eq_true rfl⟩) preEq rfl rfl hl.1 rfl (lv_room (Nat.le_of_ble_eq_true rfl)) dX1_power_34 ⟨Nat.le_of_ble_eq_true rfl, Nat.le_of_ble_eq_true rfl⟩) ?_
        refine gl_to (y := nI (gf_xs f (i + 1))) rfl ?_
        refine lv_istore_n (lv' := [(3, .int (nI (gf_xs f (i + 1)))), (0, .ref h0), (2, .int (nI (gf_zs f k0 (i + 1)))), (4, .int (nI (k0 >>> i)))]) hx hb dX1_power_37 rfl hl (by decide) rfl (fun ls hl => ?_)
        refine lv_iload hx hb dX1_power_38 (lv_at hl 3 rfl) ?_
        refine lv_iconst (v := nI 1) hx hb dX1_power_40 (by decide) ?_
        refine lv_ishr hx hb dX1_power_41 ?_
        refine gl_to (y := nI (k0 >>> (i + 1))) (by rw [gl_shr (by decide) (by omega), ← Nat.shiftRight_add]) ?_
        refine lv_istore (lv' := [(4, .int (nI (k0 >>> (i + 1)))), (3, .int (nI (gf_xs f (i + 1)))), (0, .ref h0), (2, .int (nI (gf_zs f k0 (i + 1))))]) hx hb dX1_power_42 hl (by decide) rfl (fun ls hl => ?_)
        refine lv_goto (tgt := 14) hx hb dX1_power_44 (by decide) ?_
        exact ih ls trivial (lv_sub hl [2, 3, 1, 0] rfl)
      · refine lv_icmp_ne (tgt := 33) hx hb dX1_power_24 (by decide) (fun c_24 => ?_) (fun c_24 => ?_)
        · have hbit : k0.testBit i ≠ true := fun h => c_24 ((gl_b1 _).mpr h)
          have hzs : gf_zs f k0 (i + 1) = gf_zs f k0 i := if_neg hbit
          exact hmeet ls (by rw [hzs]; exact lv_sub hl [0, 1, 2, 3] rfl)
        · have hbit : k0.testBit i = true := (gl_b1 _).mp c_24
          have hzs : gf_zs f k0 (i + 1) = gf_mul (gf_zs f k0 i) (gf_xs f i) := if_pos hbit
          refine lv_iload_n hx hb dX1_power_27 rfl (lv_at hl 1 rfl) ?_
          refine lv_iload_n hx hb dX1_power_28 rfl (lv_at hl 2 rfl) ?_
          refine gl_call (W.runS (As := [.int (nI (gf_zs f k0 i)), .int (nI (gf_xs f i))]) (rest := []) ⟨hx, hb, hml, hown, hts⟩ (met_mul l (gf_zs f k0 i) (gf_xs f i) hz hxi) (va_cwS 2 hts (lw_S q19 q20 q2 q21) rfl rfl rfl (by decide +kernel) ⟨Nat.le_of_ble_eq_true rfl, Nat.le_of_ble_eq_true rfl⟩) preEq rfl rfl hl.1 rfl (lv_room (Nat.le_of_ble_eq_true rfl)) dX1_power_29 ⟨Nat.le_of_ble_eq_true rfl, Nat.le_of_ble_eq_true rfl⟩) ?_
          refine gl_to (y := nI (gf_zs f k0 (i + 1))) (by rw [hzs]) ?_
          refine lv_istore_n (lv' := [(2, .int (nI (gf_zs f k0 (i + 1)))), (0, .ref h0), (3, .int (nI (gf_xs f i))), (4, .int (nI (k0 >>> i)))]) hx hb dX1_power_32 rfl hl (by decide) rfl (fun ls hl => ?_)
          exact hmeet ls (lv_sub hl [1, 0, 2, 3] rfl)
  · intro ls _ hl
    have hl : lv_has ls 5 [(0, .ref h0), (2, .int (nI (gf_zs f k0 8))), (3, .int (nI (gf_xs f 8))), (4, .int (nI (k0 >>> 8)))] := hl
    have hk : k0 >>> 8 = 0 := by rw [Nat.shiftRight_eq_div_pow]; exact Nat.div_eq_of_lt hk8
    refine lv_iload hx hb dX1_power_14 (lv_at hl 3 rfl) ?_
    refine lv_if_le (tgt := 47) hx hb dX1_power_16 (by decide) (fun c_16 => ?_) (fun c_16 => ?_)
    · have hres := gf_sq_end (n := k0) (i := 8) hf hk
      refine lv_iload_n hx hb dX1_power_47 rfl (lv_at hl 1 rfl) ?_
      exact W.iret (v := nI (gf_zs f k0 8)) hx hb hr (fun t ht hW => ⟨by rw [hres], ht⟩) (fun _ h => by cases h) dX1_power_48
    · exact absurd (by rw [hk, nI_0]; decide) c_16
set_option maxHeartbeats 4000000 in
set_option maxRecDepth 100000 in
/-- ByteField(): held is 1 -/
theorem met_binit (l : Launch) (dC : Nat → ClassId) (dI : Nat → Nat → Nat) (h0 sz : Nat) (f : Int32) : Met l yX1_init (ws_ yX1_init cX1_init 1 (none)) ({ frames := 1, cells := 0, slots := 0, locals := 12 } : Room) (va_Pc [.ref h0] (fun U => U.heap.size = sz ∧ va_P (dC, dI) vwCl [(h0, .inr (0, [.int f]))] U.heap ∧ va_K (dC, dI) vwCl [] U ∧ va_D (fun _ => True) [(h0, .inr (0, [.int f]))])) (va_Qv (fun u : Int32 => u = nI 1) (BX1 dC dI (va_A [(h0, .inr (0, [.int f]))] sz) h0) (va_A [(h0, .inr (0, [.int f]))] sz)) 0 0 (va_A [(h0, .inr (0, [.int f]))] sz) := by
  refine Met.ofW (cc := cX1_init) (maxL := 1) (ret := none) (by decide) rfl ?_
  intro p e s m args below meth c s₁ B hml hv
  obtain ⟨rfl, hsz, hP, hK, hD0⟩ := hv
  have hx := B.exec
  have hb := B.bytes
  have hr := B.returns
  have hts := atoms_spec (ws := ws_ yX1_init cX1_init 1 (none)) B.pre
  have hts : ∀ w ∈ lw_all, w.before _ s = true := fun w h => hts w (List.mem_cons_of_mem _ h)
  have hown : s.vm.findClass RX1 = some m.cls := findClass_of_methodNamed B.named
  have hlocks := B.notSynchronized
  have hin : meth.name = "<init>" := (name_of_methodNamed B.named B.method).1
  subst hsz
  have hD := hD0.self (sz := s.heap.size)
  generalize hAe : va_A [(h0, .inr (0, [.int f]))] s.heap.size = A at hD ⊢
  have hA : ∀ q : Nat, s.heap.size ≤ q → A q := fun q h => by rw [← hAe]; exact Or.inr h
  have hS : va_S A s.heap s.heap [] := va_S.rf
  have hl := lv_entry ([.ref h0]) (n := 1) (Nat.le_of_ble_eq_true rfl)
  rw [lg_entry_eq]
  generalize (lg_sl ([.ref h0]) ++ List.replicate (1 - (lg_sl ([.ref h0])).length) Slot.unset).toArray = ls at hl ⊢
  have hl : lv_has ls 1 [(0, .ref h0)] := hl
  refine lv_aload_n hx hb dX1_init_0 rfl (lv_at hl 0 rfl) ?_
  refine W.objInit hx hb hown (hts _ q8) (hts _ q9) (hts _ q10) rfl (by rw [hml]; exact hl.1) rfl dX1_init_1 (Nat.le_of_ble_eq_true rfl) (Nat.le_of_ble_eq_true rfl) ?_
  refine W.eq (g2 := F0 m 4 ls []) rfl ?_
  refine lv_aload_n hx hb dX1_init_4 rfl (lv_at hl 0 rfl) ?_
  refine lv_iconst (v := nI 1) hx hb dX1_init_5 (by decide) ?_
  refine va_put (D := (dC, dI)) (ci := 0) (v := .int (nI 1)) (ty := .int) (C := RX1) (T := TX1) (N := 1) hx hb hts in_X1 tyX1 tyX1_ok nmX1 hown hK hP hD hS 0 rfl rfl 0 (by decide) (hts _ q11) (fun _ h9 => h9) rfl (by decide +kernel) rfl rfl (Nat.le_of_ble_eq_true rfl) dX1_init_6 (fun H locs hP hD hS => ?_)
  have hP : va_P (dC, dI) vwCl [(h0, .inr (0, [.int (nI 1)]))] H := hP
  have hD : va_D A [(h0, .inr (0, [.int (nI 1)]))] := hD
  exact W.vret hx hb hr (fun t ht hW => ⟨⟨nI 1, rfl, rfl, by rw [ht]; exact hP, va_K.moved hW.alike hK, hD⟩, hS.F ht⟩) hS.2.2 dX1_init_9
set_option maxHeartbeats 4000000 in
set_option maxRecDepth 100000 in
/-- hold(a): the field is a & 255, and so is the answer -/
theorem met_hold (l : Launch) (dC : Nat → ClassId) (dI : Nat → Nat → Nat) (h0 sz : Nat) (f a : Int32) : Met l yX1_hold (ws_ yX1_hold cX1_hold 2 (some .int)) ({ frames := 0, cells := 0, slots := 0, locals := 0 } : Room) (va_Pc [.ref h0, .int a] (fun U => U.heap.size = sz ∧ va_P (dC, dI) vwCl [(h0, .inr (0, [.int f]))] U.heap ∧ va_K (dC, dI) vwCl [] U ∧ va_D (fun _ => True) [(h0, .inr (0, [.int f]))])) (va_Qi (fun (r u : Int32) => r = nI (gl_lo a) ∧ u = nI (gl_lo a)) (BX1 dC dI (va_A [(h0, .inr (0, [.int f]))] sz) h0) (va_A [(h0, .inr (0, [.int f]))] sz)) 0 0 (va_A [(h0, .inr (0, [.int f]))] sz) := by
  refine Met.ofW (cc := cX1_hold) (maxL := 2) (ret := some .int) (by decide) rfl ?_
  intro p e s m args below meth c s₁ B hml hv
  obtain ⟨rfl, hsz, hP, hK, hD0⟩ := hv
  have hx := B.exec
  have hb := B.bytes
  have hr := B.returns
  have hts := atoms_spec (ws := ws_ yX1_hold cX1_hold 2 (some .int)) B.pre
  have hts : ∀ w ∈ lw_all, w.before _ s = true := fun w h => hts w (List.mem_cons_of_mem _ h)
  have hown : s.vm.findClass RX1 = some m.cls := findClass_of_methodNamed B.named
  have hlocks := B.notSynchronized
  subst hsz
  have hD := hD0.self (sz := s.heap.size)
  generalize hAe : va_A [(h0, .inr (0, [.int f]))] s.heap.size = A at hD ⊢
  have hA : ∀ q : Nat, s.heap.size ≤ q → A q := fun q h => by rw [← hAe]; exact Or.inr h
  have hS : va_S A s.heap s.heap [] := va_S.rf
  have hl := lv_entry ([.ref h0, .int a]) (n := 2) (Nat.le_of_ble_eq_true rfl)
  rw [lg_entry_eq]
  generalize (lg_sl ([.ref h0, .int a]) ++ List.replicate (2 - (lg_sl ([.ref h0, .int a])).length) Slot.unset).toArray = ls at hl ⊢
  have hl : lv_has ls 2 [(0, .ref h0), (1, .int a)] := hl
  refine lv_aload_n hx hb dX1_hold_0 rfl (lv_at hl 0 rfl) ?_
  refine lv_iload_n hx hb dX1_hold_1 rfl (lv_at hl 1 rfl) ?_
  refine lv_sipush (v := nI 255) hx hb dX1_hold_2 (by decide) ?_
  refine lv_iand hx hb dX1_hold_5 ?_
  refine gl_to (y := nI (gl_lo a)) (gl_and _) ?_
  refine va_put (D := (dC, dI)) (ci := 0) (v := .int (nI (gl_lo a))) (ty := .int) (C := RX1) (T := TX1) (N := 1) hx hb hts in_X1 tyX1 tyX1_ok nmX1 hown hK hP hD hS 0 rfl rfl 0 (by decide) (hts _ q11) (fun _ h9 => h9) rfl (by decide +kernel) rfl rfl (Nat.le_of_ble_eq_true rfl) dX1_hold_6 (fun H locs hP hD hS => ?_)
  have hP : va_P (dC, dI) vwCl [(h0, .inr (0, [.int (nI (gl_lo a))]))] H := hP
  have hD : va_D A [(h0, .inr (0, [.int (nI (gl_lo a))]))] := hD
  refine lv_aload_n hx hb dX1_hold_9 rfl (lv_at hl 0 rfl) ?_
  refine va_get (D := (dC, dI)) (ci := 0) (v := .int (nI (gl_lo a))) (C := RX1) (T := TX1) (N := 1) hx hb hts in_X1 hown hK hP 0 rfl rfl 0 (by decide) (hts _ q11) (fun _ h9 => h9) rfl dX1_hold_10 ?_
  exact W.iret (v := nI (gl_lo a)) hx hb hr (fun t ht hW => ⟨⟨nI (gl_lo a), nI (gl_lo a), rfl, ⟨rfl, rfl⟩, by rw [ht]; exact hP, va_K.moved hW.alike hK, hD⟩, hS.F ht⟩) hS.2.2 dX1_hold_13
set_option maxHeartbeats 4000000 in
set_option maxRecDepth 100000 in
/-- fold(a, b): held times a, plus b -/
theorem met_fold (l : Launch) (dC : Nat → ClassId) (dI : Nat → Nat → Nat) (h0 sz : Nat) (f : Int32) (h : Nat) (hf : f = nI h) (hh : h < 256) (a b : Int32) : Met l yX1_fold (ws_ yX1_fold cX1_fold 3 (some .int)) ({ frames := 2, cells := 0, slots := 0, locals := 46 } : Room) (va_Pc [.ref h0, .int a, .int b] (fun U => U.heap.size = sz ∧ va_P (dC, dI) vwCl [(h0, .inr (0, [.int f]))] U.heap ∧ va_K (dC, dI) vwCl [] U ∧ va_D (fun _ => True) [(h0, .inr (0, [.int f]))])) (va_Qi (fun (r u : Int32) => r = nI (gf_mul h (gl_lo a) ^^^ gl_lo b) ∧ u = nI (gf_mul h (gl_lo a) ^^^ gl_lo b)) (BX1 dC dI (va_A [(h0, .inr (0, [.int f]))] sz) h0) (va_A [(h0, .inr (0, [.int f]))] sz)) 0 0 (va_A [(h0, .inr (0, [.int f]))] sz) := by
  refine Met.ofW (cc := cX1_fold) (maxL := 3) (ret := some .int) (by decide) rfl ?_
  intro p e s m args below meth c s₁ B hml hv
  obtain ⟨rfl, hsz, hP, hK, hD0⟩ := hv
  have hx := B.exec
  have hb := B.bytes
  have hr := B.returns
  have hts := atoms_spec (ws := ws_ yX1_fold cX1_fold 3 (some .int)) B.pre
  have hts : ∀ w ∈ lw_all, w.before _ s = true := fun w h => hts w (List.mem_cons_of_mem _ h)
  have hown : s.vm.findClass RX1 = some m.cls := findClass_of_methodNamed B.named
  have hlocks := B.notSynchronized
  subst hsz
  have hD := hD0.self (sz := s.heap.size)
  generalize hAe : va_A [(h0, .inr (0, [.int f]))] s.heap.size = A at hD ⊢
  have hA : ∀ q : Nat, s.heap.size ≤ q → A q := fun q h => by rw [← hAe]; exact Or.inr h
  have hS : va_S A s.heap s.heap [] := va_S.rf
  have hl := lv_entry ([.ref h0, .int a, .int b]) (n := 3) (Nat.le_of_ble_eq_true rfl)
  rw [lg_entry_eq]
  generalize (lg_sl ([.ref h0, .int a, .int b]) ++ List.replicate (3 - (lg_sl ([.ref h0, .int a, .int b])).length) Slot.unset).toArray = ls at hl ⊢
  have hl : lv_has ls 3 [(0, .ref h0), (1, .int a), (2, .int b)] := hl
  refine lv_aload_n hx hb dX1_fold_0 rfl (lv_at hl 0 rfl) ?_
  refine lv_aload_n hx hb dX1_fold_1 rfl (lv_at hl 0 rfl) ?_
  refine va_get (D := (dC, dI)) (ci := 0) (v := .int f) (C := RX1) (T := TX1) (N := 1) hx hb hts in_X1 hown hK hP 0 rfl rfl 0 (by decide) (hts _ q11) (fun _ h9 => h9) rfl dX1_fold_2 ?_
  refine gl_to (y := nI h) hf ?_
  refine lv_iload_n hx hb dX1_fold_5 rfl (lv_at hl 1 rfl) ?_
  refine lv_sipush (v := nI 255) hx hb dX1_fold_6 (by decide) ?_
  refine lv_iand hx hb dX1_fold_9 ?_
  refine gl_to (y := nI (gl_lo a)) (gl_and _) ?_
  refine gl_call (W.runS (As := [.int (nI h), .int (nI (gl_lo a))]) (rest := [.ref h0]) ⟨hx, hb, hml, hown, hts⟩ (met_mul l h (gl_lo a) hh (gl_lo_lt a)) (va_cwS 2 hts (lw_S q19 q20 q2 q21) rfl rfl rfl (by decide +kernel) ⟨Nat.le_of_ble_eq_true rfl, Nat.le_of_ble_eq_true rfl⟩) preEq rfl rfl hl.1 rfl (lv_room (Nat.le_of_ble_eq_true rfl)) dX1_fold_10 ⟨Nat.le_of_ble_eq_true rfl, Nat.le_of_ble_eq_true rfl⟩) ?_
  refine lv_iload_n hx hb dX1_fold_13 rfl (lv_at hl 2 rfl) ?_
  refine lv_sipush (v := nI 255) hx hb dX1_fold_14 (by decide) ?_
  refine lv_iand hx hb dX1_fold_17 ?_
  refine gl_to (y := nI (gl_lo b)) (gl_and _) ?_
  refine lv_ixor hx hb dX1_fold_18 ?_
  refine gl_to (y := nI (gf_mul h (gl_lo a) ^^^ gl_lo b)) (nx_xor _ _) ?_
  refine va_put (D := (dC, dI)) (ci := 0) (v := .int (nI (gf_mul h (gl_lo a) ^^^ gl_lo b))) (ty := .int) (C := RX1) (T := TX1) (N := 1) hx hb hts in_X1 tyX1 tyX1_ok nmX1 hown hK hP hD hS 0 rfl rfl 0 (by decide) (hts _ q11) (fun _ h9 => h9) rfl (by decide +kernel) rfl rfl (Nat.le_of_ble_eq_true rfl) dX1_fold_19 (fun H locs hP hD hS => ?_)
  have hP : va_P (dC, dI) vwCl [(h0, .inr (0, [.int (nI (gf_mul h (gl_lo a) ^^^ gl_lo b))]))] H := hP
  have hD : va_D A [(h0, .inr (0, [.int (nI (gf_mul h (gl_lo a) ^^^ gl_lo b))]))] := hD
  refine lv_aload_n hx hb dX1_fold_22 rfl (lv_at hl 0 rfl) ?_
  refine va_get (D := (dC, dI)) (ci := 0) (v := .int (nI (gf_mul h (gl_lo a) ^^^ gl_lo b))) (C := RX1) (T := TX1) (N := 1) hx hb hts in_X1 hown hK hP 0 rfl rfl 0 (by decide) (hts _ q11) (fun _ h9 => h9) rfl dX1_fold_23 ?_
  exact W.iret (v := nI (gf_mul h (gl_lo a) ^^^ gl_lo b)) hx hb hr (fun t ht hW => ⟨⟨nI (gf_mul h (gl_lo a) ^^^ gl_lo b), nI (gf_mul h (gl_lo a) ^^^ gl_lo b), rfl, ⟨rfl, rfl⟩, by rw [ht]; exact hP, va_K.moved hW.alike hK, hD⟩, hS.F ht⟩) hS.2.2 dX1_fold_26
end
section
/-! the law's own helpers: cell, product, inverse, power -/
/-- what cell(s, k) answers -/
def gl_cell (L : Nat) (xs : Nat → Int32) (k : Nat) : Int32 := if k < L then xs k else nI 0
set_option maxHeartbeats 4000000 in
set_option maxRecDepth 100000 in
/-- cell(s, k) -/
theorem met_cell (l : Launch) (b L : Nat) (xs : Nat → Int32) (hL : L ≤ 96) (k : Nat) (hk : k < 1000) : Met l yX0_cell (ws_ yX0_cell cX0_cell 2 (some .int)) ({ frames := 0, cells := 0, slots := 0, locals := 0 } : Room) (va_Pc [.ref b, .int (nI k)] (fun U => va_X b L xs U U.heap)) (QcRead (gl_cell L xs k)) 0 0 (fun _ => False) := by
  refine Met.ofW (cc := cX0_cell) (maxL := 2) (ret := some .int) (by decide) rfl ?_
  intro p e s m args below meth c s₁ B hml hv
  obtain ⟨rfl, hX⟩ := hv
  have hx := B.exec
  have hb := B.bytes
  have hr := B.returns
  have hts := atoms_spec (ws := ws_ yX0_cell cX0_cell 2 (some .int)) B.pre
  have hts : ∀ w ∈ lw_all, w.before _ s = true := fun w h => hts w (List.mem_cons_of_mem _ h)
  have hown : s.vm.findClass RX0 = some m.cls := findClass_of_methodNamed B.named
  have hlocks := B.notSynchronized
  have hl := lv_entry ([.ref b, .int (nI k)]) (n := 2) (Nat.le_of_ble_eq_true rfl)
  rw [lg_entry_eq]
  generalize (lg_sl ([.ref b, .int (nI k)]) ++ List.replicate (2 - (lg_sl ([.ref b, .int (nI k)])).length) Slot.unset).toArray = ls at hl ⊢
  have hl : lv_has ls 2 [(0, .ref b), (1, .int (nI k))] := hl
  have hbl : b < s.heap.size := by obtain ⟨scr, h1, -⟩ := hX; exact (Array.getElem?_eq_some_iff.mp h1).1
  have hS : va_S (fun _ => False) s.heap s.heap [] := va_S.rf
  refine lv_iload_n hx hb dX0_cell_0 rfl (lv_at hl 1 rfl) ?_
  refine lv_aload_n hx hb dX0_cell_1 rfl (lv_at hl 0 rfl) ?_
  refine va_slen (A := fun _ => False) hx hb hX hbl (fun h => h) hS dX0_cell_2 ?_
  refine gl_to (y := nI L) rfl ?_
  refine lv_icmp_ge (tgt := 12) hx hb dX0_cell_3 (by decide) (fun c_3 => ?_) (fun c_3 => ?_)
  · have hge : L ≤ k := (nI_leI (by omega) (by omega)).mp c_3
    have hres : gl_cell L xs k = nI 0 := if_neg (by omega)
    refine lv_iconst (v := nI 0) hx hb dX0_cell_12 (by decide) ?_
    exact W.iret (v := nI 0) hx hb hr (fun t ht hW => ⟨by rw [hres], ht⟩) (fun _ h => by cases h) dX0_cell_13
  · have hlt : k < L := by rw [nI_leI (by omega) (by omega)] at c_3; omega
    have hres : gl_cell L xs k = xs k := if_pos hlt
    refine lv_aload_n hx hb dX0_cell_6 rfl (lv_at hl 0 rfl) ?_
    refine lv_iload_n hx hb dX0_cell_7 rfl (lv_at hl 1 rfl) ?_
    refine va_sld (A := fun _ => False) hx hb hX hbl (fun h => h) hS (vp_in_nI hlt (by omega)) dX0_cell_8 ?_
    refine gl_to (y := xs k) (by rw [nI_clamp (by omega)]) ?_
    refine lv_goto (tgt := 13) hx hb dX0_cell_9 (by decide) ?_
    exact W.iret (v := xs k) hx hb hr (fun t ht hW => ⟨by rw [hres], ht⟩) (fun _ h => by cases h) dX0_cell_13
set_option maxHeartbeats 4000000 in
set_option maxRecDepth 100000 in
/-- the law's product(a, b) -/
theorem met_product (l : Launch) (a b : Nat) (ha : a < 256) (hb8 : b < 256) : Met l yX0_product (ws_ yX0_product cX0_product 5 (some .int)) ({ frames := 0, cells := 0, slots := 0, locals := 0 } : Room) (fun v _ => v = ([.int (nI a), .int (nI b)] : List Value).toArray) (QcRead (nI (gf_mul a b))) 0 0 (fun _ => False) := by
  refine Met.ofW (cc := cX0_product) (maxL := 5) (ret := some .int) (by decide) rfl ?_
  intro p e s m args below meth c s₁ B hml hv
  have hv : args = ([.int (nI a), .int (nI b)] : List Value).toArray := hv
  subst hv
  have hx := B.exec
  have hb := B.bytes
  have hr := B.returns
  have hts := atoms_spec (ws := ws_ yX0_product cX0_product 5 (some .int)) B.pre
  have hts : ∀ w ∈ lw_all, w.before _ s = true := fun w h => hts w (List.mem_cons_of_mem _ h)
  have hown : s.vm.findClass RX0 = some m.cls := findClass_of_methodNamed B.named
  have hlocks := B.notSynchronized
  have hl := lv_entry ([.int (nI a), .int (nI b)]) (n := 5) (Nat.le_of_ble_eq_true rfl)
  rw [lg_entry_eq]
  generalize (lg_sl ([.int (nI a), .int (nI b)]) ++ List.replicate (5 - (lg_sl ([.int (nI a), .int (nI b)])).length) Slot.unset).toArray = ls at hl ⊢
  have hl : lv_has ls 5 [(0, .int (nI a)), (1, .int (nI b))] := hl
  refine lv_iconst (v := nI 0) hx hb dX0_product_0 (by decide) ?_
  refine lv_istore_n (lv' := [(2, .int (nI 0)), (0, .int (nI a)), (1, .int (nI b))]) hx hb dX0_product_1 rfl hl (by decide) rfl (fun ls hl => ?_)
  refine lv_iload_n hx hb dX0_product_2 rfl (lv_at hl 1 rfl) ?_
  refine lv_istore_n (lv' := [(3, .int (nI a)), (2, .int (nI 0)), (0, .int (nI a)), (1, .int (nI b))]) hx hb dX0_product_3 rfl hl (by decide) rfl (fun ls hl => ?_)
  refine lv_iconst (v := nI 0) hx hb dX0_product_4 (by decide) ?_
  refine lv_istore (lv' := [(4, .int (nI 0)), (3, .int (nI a)), (2, .int (nI 0)), (0, .int (nI a)), (1, .int (nI b))]) hx hb dX0_product_5 hl (by decide) rfl (fun ls hl => ?_)
  refine gl_loop (pc := 7) (nL := 5) (fun i => [(0, .int (nI a)), (1, .int (nI b)), (2, .int (nI (gf_ps a b i))), (3, .int (nI (gf_mv a i))), (4, .int (nI i))]) (fun _ => True) 8 ?_ ?_ ls trivial (lv_sub hl [3, 4, 2, 1, 0] rfl)
  · intro i hi _ ih ls hl
    have hl : lv_has ls 5 [(0, .int (nI a)), (1, .int (nI b)), (2, .int (nI (gf_ps a b i))), (3, .int (nI (gf_mv a i))), (4, .int (nI i))] := hl
    have hm := gf_mv_lt ha i
    have hs8 := gf_ps_lt ha b i
    have hsl : gf_mv a i <<< 1 = 2 * gf_mv a i := by rw [Nat.shiftLeft_eq]; omega
    refine gl_meet (nL := 5) 45 [(0, .int (nI a)), (1, .int (nI b)), (2, .int (nI (gf_ps a b (i + 1)))), (3, .int (nI (gf_mv a (i + 1)))), (4, .int (nI i))] [] ?_ (fun h45 => ?_)
    · intro ls hl
      refine lv_iinc (v := nI (i + 1)) (lv' := [(4, .int (nI (i + 1))), (0, .int (nI a)), (1, .int (nI b)), (2, .int (nI (gf_ps a b (i + 1)))), (3, .int (nI (gf_mv a (i + 1))))]) hx hb dX0_product_45 hl (k := 4) rfl (gl_inc i) (by decide) rfl (fun ls hl => ?_)
      refine lv_goto (tgt := 7) hx hb dX0_product_48 (by decide) ?_
      exact ih ls trivial (lv_sub hl [1, 2, 3, 4, 0] rfl)
    · refine gl_meet (nL := 5) 28 [(0, .int (nI a)), (1, .int (nI b)), (2, .int (nI (gf_ps a b (i + 1)))), (3, .int (nI (gf_mv a i))), (4, .int (nI i))] [] ?_ (fun h28 => ?_)
      · intro ls hl
        refine lv_iload_n hx hb dX0_product_28 rfl (lv_at hl 3 rfl) ?_
        refine lv_iconst (v := nI 1) hx hb dX0_product_29 (by decide) ?_
        refine lv_ishl hx hb dX0_product_30 ?_
        refine gl_to (y := nI (gf_mv a i <<< 1)) (gl_shl (by decide) (by omega)) ?_
        refine lv_istore_n (lv' := [(3, .int (nI (gf_mv a i <<< 1))), (0, .int (nI a)), (1, .int (nI b)), (2, .int (nI (gf_ps a b (i + 1)))), (4, .int (nI i))]) hx hb dX0_product_31 rfl hl (by decide) rfl (fun ls hl => ?_)
        refine lv_iload_n hx hb dX0_product_32 rfl (lv_at hl 0 rfl) ?_
        refine lv_sipush (v := nI 255) hx hb dX0_product_33 (by decide) ?_
        refine lv_icmp_le (tgt := 45) hx hb dX0_product_36 (by decide) (fun c_36 => ?_) (fun c_36 => ?_)
        · have hle : ¬ 255 < gf_mv a i <<< 1 := by rw [nI_leI (by omega) (by decide)] at c_36; omega
          have hmv : gf_mv a (i + 1) = gf_mv a i <<< 1 := if_neg hle
          exact h45 ls (by rw [hmv]; exact lv_sub hl [1, 2, 3, 0, 4] rfl)
        · have hle : 255 < gf_mv a i <<< 1 := by rw [nI_leI (by omega) (by decide)] at c_36; omega
          have hmv : gf_mv a (i + 1) = (gf_mv a i <<< 1) ^^^ 285 := if_pos hle
          refine lv_iload_n hx hb dX0_product_39 rfl (lv_at hl 0 rfl) ?_
          refine lv_sipush (v := nI 285) hx hb dX0_product_40 (by decide) ?_
          refine lv_ixor hx hb dX0_product_43 ?_
          refine gl_to (y := nI (gf_mv a (i + 1))) (by rw [nx_xor, hmv]) ?_
          refine lv_istore_n (lv' := [(3, .int (nI (gf_mv a (i + 1)))), (0, .int (nI a)), (1, .int (nI b)), (2, .int (nI (gf_ps a b (i + 1)))), (4, .int (nI i))]) hx hb dX0_product_44 rfl hl (by decide) rfl (fun ls hl => ?_)
          exact h45 ls (lv_sub hl [1, 2, 3, 0, 4] rfl)
      · refine lv_iload hx hb dX0_product_7 (lv_at hl 4 rfl) ?_
        refine lv_bipush (v := nI 8) hx hb dX0_product_9 (by decide) ?_
        refine lv_icmp_ge (tgt := 51) hx hb dX0_product_11 (by decide) (fun c_11 => ?_) (fun c_11 => ?_)
        · exact absurd c_11 (nI_ge (by omega) (by omega))
        · refine lv_iload_n hx hb dX0_product_14 rfl (lv_at hl 1 rfl) ?_
          refine lv_iload hx hb dX0_product_15 (lv_at hl 4 rfl) ?_
          refine lv_ishr hx hb dX0_product_17 ?_
          refine gl_to (y := nI (b >>> i)) (gl_shr (by omega) (by omega)) ?_
          refine lv_iconst (v := nI 1) hx hb dX0_product_18 (by decide) ?_
          refine lv_iand hx hb dX0_product_19 ?_
          refine gl_to (y := nI (b.testBit i).toNat) (gl_bit _ _) ?_
          refine lv_iconst (v := nI 1) hx hb dX0_product_20 (by decide) ?_
          refine lv_icmp_ne (tgt := 28) hx hb dX0_product_21 (by decide) (fun c_21 => ?_) (fun c_21 => ?_)
          · have hbit : b.testBit i ≠ true := fun h => c_21 ((gl_b1 _).mpr h)
            have hps : gf_ps a b (i + 1) = gf_ps a b i := if_neg hbit
            exact h28 ls (by rw [hps]; exact lv_sub hl [0, 1, 2, 3, 4] rfl)
          · have hbit : b.testBit i = true := (gl_b1 _).mp c_21
            have hps : gf_ps a b (i + 1) = gf_ps a b i ^^^ gf_mv a i := if_pos hbit
            refine lv_iload_n hx hb dX0_product_24 rfl (lv_at hl 2 rfl) ?_
            refine lv_iload_n hx hb dX0_product_25 rfl (lv_at hl 3 rfl) ?_
            refine lv_ixor hx hb dX0_product_26 ?_
            refine gl_to (y := nI (gf_ps a b (i + 1))) (by rw [nx_xor, hps]) ?_
            refine lv_istore_n (lv' := [(2, .int (nI (gf_ps a b (i + 1)))), (0, .int (nI a)), (1, .int (nI b)), (3, .int (nI (gf_mv a i))), (4, .int (nI i))]) hx hb dX0_product_27 rfl hl (by decide) rfl (fun ls hl => ?_)
            exact h28 ls (lv_sub hl [1, 2, 0, 3, 4] rfl)
  · intro ls _ hl
    have hl : lv_has ls 5 [(0, .int (nI a)), (1, .int (nI b)), (2, .int (nI (gf_ps a b 8))), (3, .int (nI (gf_mv a 8))), (4, .int (nI 8))] := hl
    refine lv_iload hx hb dX0_product_7 (lv_at hl 4 rfl) ?_
    refine lv_bipush (v := nI 8) hx hb dX0_product_9 (by decide) ?_
    refine lv_icmp_ge (tgt := 51) hx hb dX0_product_11 (by decide) (fun c_11 => ?_) (fun c_11 => ?_)
    · have hres := gf_ps_eq ha hb8
      refine lv_iload_n hx hb dX0_product_51 rfl (lv_at hl 2 rfl) ?_
      exact W.iret (v := nI (gf_ps a b 8)) hx hb hr (fun t ht hW => ⟨by rw [hres], ht⟩) (fun _ h => by cases h) dX0_product_52
    · exact absurd (nI_le (Nat.le_refl 8) (by decide)) c_11
set_option maxHeartbeats 4000000 in
set_option maxRecDepth 100000 in
/-- the law's inverse(a): the first z with product(a, z) = 1, -1 where there is none -/
theorem met_linverse (l : Launch) (a : Nat) (ha : a < 256) : Met l yX0_inverse (ws_ yX0_inverse cX0_inverse 2 (some .int)) ({ frames := 1, cells := 0, slots := 0, locals := 24 } : Room) (fun v _ => v = ([.int (nI a)] : List Value).toArray) (QcRead (gl_inv a)) 0 0 (fun _ => False) := by
  refine Met.ofW (cc := cX0_inverse) (maxL := 2) (ret := some .int) (by decide) rfl ?_
  intro p e s m args below meth c s₁ B hml hv
  have hv : args = ([.int (nI a)] : List Value).toArray := hv
  subst hv
  have hx := B.exec
  have hb := B.bytes
  have hr := B.returns
  have hts := atoms_spec (ws := ws_ yX0_inverse cX0_inverse 2 (some .int)) B.pre
  have hts : ∀ w ∈ lw_all, w.before _ s = true := fun w h => hts w (List.mem_cons_of_mem _ h)
  have hown : s.vm.findClass RX0 = some m.cls := findClass_of_methodNamed B.named
  have hlocks := B.notSynchronized
  have hl := lv_entry ([.int (nI a)]) (n := 2) (Nat.le_of_ble_eq_true rfl)
  rw [lg_entry_eq]
  generalize (lg_sl ([.int (nI a)]) ++ List.replicate (2 - (lg_sl ([.int (nI a)])).length) Slot.unset).toArray = ls at hl ⊢
  have hl : lv_has ls 2 [(0, .int (nI a))] := hl
  refine lv_iconst (v := nI 1) hx hb dX0_inverse_0 (by decide) ?_
  refine lv_istore_n (lv' := [(1, .int (nI 1)), (0, .int (nI a))]) hx hb dX0_inverse_1 rfl hl (by decide) rfl (fun ls hl => ?_)
  refine gl_loop (pc := 2) (nL := 2) (fun i => [(0, .int (nI a)), (1, .int (nI (i + 1)))]) (fun i => ∀ j, j < i → gf_mul a (j + 1) ≠ 1) 255 ?_ ?_ ls (fun j hj => absurd hj (Nat.not_lt_zero _)) (lv_sub hl [1, 0] rfl)
  · intro i hi hno ih ls hl
    have hl : lv_has ls 2 [(0, .int (nI a)), (1, .int (nI (i + 1)))] := hl
    refine lv_iload_n hx hb dX0_inverse_2 rfl (lv_at hl 1 rfl) ?_
    refine lv_sipush (v := nI 256) hx hb dX0_inverse_3 (by decide) ?_
    refine lv_icmp_ge (tgt := 26) hx hb dX0_inverse_6 (by decide) (fun c_6 => ?_) (fun c_6 => ?_)
    · exact absurd c_6 (nI_ge (by omega) (by decide))
    · refine lv_iload_n hx hb dX0_inverse_9 rfl (lv_at hl 0 rfl) ?_
      refine lv_iload_n hx hb dX0_inverse_10 rfl (lv_at hl 1 rfl) ?_
      refine gl_call (W.runS (As := [.int (nI a), .int (nI (i + 1))]) (rest := []) ⟨hx, hb, hml, hown, hts⟩ (met_product l a (i + 1) ha (by omega)) (va_cwS 2 hts (lw_S q71 q72 q0 q73) rfl rfl rfl (by decide +kernel) ⟨Nat.le_of_ble_eq_true rfl, Nat.le_of_ble_eq_true rfl⟩) preEq rfl rfl hl.1 rfl (lv_room (Nat.le_of_ble_eq_true rfl)) dX0_inverse_11 ⟨Nat.le_of_ble_eq_true rfl, Nat.le_of_ble_eq_true rfl⟩) ?_
      refine lv_iconst (v := nI 1) hx hb dX0_inverse_14 (by decide) ?_
      refine lv_icmp_ne (tgt := 20) hx hb dX0_inverse_15 (by decide) (fun c_15 => ?_) (fun c_15 => ?_)
      · have hne : gf_mul a (i + 1) ≠ 1 := fun h => c_15 (by rw [h])
        refine lv_iinc (v := nI (i + 1 + 1)) (lv' := [(1, .int (nI (i + 1 + 1))), (0, .int (nI a))]) hx hb dX0_inverse_20 hl (k := 1) rfl (gl_inc (i + 1)) (by decide) rfl (fun ls hl => ?_)
        refine lv_goto (tgt := 2) hx hb dX0_inverse_23 (by decide) ?_
        exact ih ls (lt_s hno hne) (lv_sub hl [1, 0] rfl)
      · have h1 : gf_mul a (i + 1) = 1 := (gl_eq (gf_lt _ _) (by decide)).mp c_15
        obtain ⟨h0, hz⟩ := gf_inv_uniq ha (by omega) h1
        have hres : gl_inv a = nI (i + 1) := (if_neg h0).trans (by rw [hz])
        refine lv_iload_n hx hb dX0_inverse_18 rfl (lv_at hl 1 rfl) ?_
        exact W.iret (v := nI (i + 1)) hx hb hr (fun t ht hW => ⟨by rw [hres], ht⟩) (fun _ h => by cases h) dX0_inverse_19
  · intro ls hno hl
    have hl : lv_has ls 2 [(0, .int (nI a)), (1, .int (nI 256))] := hl
    refine lv_iload_n hx hb dX0_inverse_2 rfl (lv_at hl 1 rfl) ?_
    refine lv_sipush (v := nI 256) hx hb dX0_inverse_3 (by decide) ?_
    refine lv_icmp_ge (tgt := 26) hx hb dX0_inverse_6 (by decide) (fun c_6 => ?_) (fun c_6 => ?_)
    · have h0 : a = 0 := by
        apply Classical.byContradiction
        intro h0
        have h1 := gf_inv_ne ha h0
        have h2 := gf_inv_lt a
        have h3 := hno (gf_inv a - 1) (by omega)
        rw [show gf_inv a - 1 + 1 = gf_inv a by omega] at h3
        exact h3 (gf_inv_r a ha h0)
      have hres : gl_inv a = -1 := if_pos h0
      refine lv_iconst (v := (-1)) hx hb dX0_inverse_26 (by decide) ?_
      exact W.iret (v := -1) hx hb hr (fun t ht hW => ⟨by rw [hres], ht⟩) (fun _ h => by cases h) dX0_inverse_27
    · exact absurd (nI_le (Nat.le_refl 256) (by decide)) c_6
set_option maxHeartbeats 4000000 in
set_option maxRecDepth 100000 in
/-- the law's power(a, n): n times multiplied -/
theorem met_lpower (l : Launch) (a n : Nat) (ha : a < 256) (hn8 : n < 256) : Met l yX0_power (ws_ yX0_power cX0_power 4 (some .int)) ({ frames := 1, cells := 0, slots := 0, locals := 24 } : Room) (fun v _ => v = ([.int (nI a), .int (nI n)] : List Value).toArray) (QcRead (nI (gf_pow a n))) 0 0 (fun _ => False) := by
  refine Met.ofW (cc := cX0_power) (maxL := 4) (ret := some .int) (by decide) rfl ?_
  intro p e s m args below meth c s₁ B hml hv
  have hv : args = ([.int (nI a), .int (nI n)] : List Value).toArray := hv
  subst hv
  have hx := B.exec
  have hb := B.bytes
  have hr := B.returns
  have hts := atoms_spec (ws := ws_ yX0_power cX0_power 4 (some .int)) B.pre
  have hts : ∀ w ∈ lw_all, w.before _ s = true := fun w h => hts w (List.mem_cons_of_mem _ h)
  have hown : s.vm.findClass RX0 = some m.cls := findClass_of_methodNamed B.named
  have hlocks := B.notSynchronized
  have hl := lv_entry ([.int (nI a), .int (nI n)]) (n := 4) (Nat.le_of_ble_eq_true rfl)
  rw [lg_entry_eq]
  generalize (lg_sl ([.int (nI a), .int (nI n)]) ++ List.replicate (4 - (lg_sl ([.int (nI a), .int (nI n)])).length) Slot.unset).toArray = ls at hl ⊢
  have hl : lv_has ls 4 [(0, .int (nI a)), (1, .int (nI n))] := hl
  refine lv_iconst (v := nI 1) hx hb dX0_power_0 (by decide) ?_
  refine lv_istore_n (lv' := [(2, .int (nI 1)), (0, .int (nI a)), (1, .int (nI n))]) hx hb dX0_power_1 rfl hl (by decide) rfl (fun ls hl => ?_)
  refine lv_iconst (v := nI 0) hx hb dX0_power_2 (by decide) ?_
  refine lv_istore_n (lv' := [(3, .int (nI 0)), (2, .int (nI 1)), (0, .int (nI a)), (1, .int (nI n))]) hx hb dX0_power_3 rfl hl (by decide) rfl (fun ls hl => ?_)
  refine gl_loop (pc := 4) (nL := 4) (fun i => [(0, .int (nI a)), (1, .int (nI n)), (2, .int (nI (gf_pow a i))), (3, .int (nI i))]) (fun _ => True) n ?_ ?_ ls trivial (lv_sub hl [2, 3, 1, 0] rfl)
  · intro i hi _ ih ls hl
    have hl : lv_has ls 4 [(0, .int (nI a)), (1, .int (nI n)), (2, .int (nI (gf_pow a i))), (3, .int (nI i))] := hl
    refine lv_iload_n hx hb dX0_power_4 rfl (lv_at hl 3 rfl) ?_
    refine lv_iload_n hx hb dX0_power_5 rfl (lv_at hl 1 rfl) ?_
    refine lv_icmp_ge (tgt := 21) hx hb dX0_power_6 (by decide) (fun c_6 => ?_) (fun c_6 => ?_)
    · exact absurd c_6 (nI_ge hi (by omega))
    · refine lv_iload_n hx hb dX0_power_9 rfl (lv_at hl 2 rfl) ?_
      refine lv_iload_n hx hb dX0_power_10 rfl (lv_at hl 0 rfl) ?_
      refine gl_call (W.runS (As := [.int (nI (gf_pow a i)), .int (nI a)]) (rest := []) ⟨hx, hb, hml, hown, hts⟩ (met_product l (gf_pow a i) a (gf_pow_lt a i) ha) (va_cwS 2 hts (lw_S q71 q72 q0 q73) rfl rfl rfl (by decide +kernel) ⟨Nat.le_of_ble_eq_true rfl, Nat.le_of_ble_eq_true rfl⟩) preEq rfl rfl hl.1 rfl (lv_room (Nat.le_of_ble_eq_true rfl)) dX0_power_11 ⟨Nat.le_of_ble_eq_true rfl, Nat.le_of_ble_eq_true rfl⟩) ?_
      refine gl_to (y := nI (gf_pow a (i + 1))) rfl ?_
      refine lv_istore_n (lv' := [(2, .int (nI (gf_pow a (i + 1)))), (0, .int (nI a)), (1, .int (nI n)), (3, .int (nI i))]) hx hb dX0_power_14 rfl hl (by decide) rfl (fun ls hl => ?_)
      refine lv_iinc (v := nI (i + 1)) (lv' := [(3, .int (nI (i + 1))), (2, .int (nI (gf_pow a (i + 1)))), (0, .int (nI a)), (1, .int (nI n))]) hx hb dX0_power_15 hl (k := 3) rfl (gl_inc i) (by decide) rfl (fun ls hl => ?_)
      refine lv_goto (tgt := 4) hx hb dX0_power_18 (by decide) ?_
      exact ih ls trivial (lv_sub hl [2, 3, 1, 0] rfl)
  · intro ls _ hl
    have hl : lv_has ls 4 [(0, .int (nI a)), (1, .int (nI n)), (2, .int (nI (gf_pow a n))), (3, .int (nI n))] := hl
    refine lv_iload_n hx hb dX0_power_4 rfl (lv_at hl 3 rfl) ?_
    refine lv_iload_n hx hb dX0_power_5 rfl (lv_at hl 1 rfl) ?_
    refine lv_icmp_ge (tgt := 21) hx hb dX0_power_6 (by decide) (fun c_6 => ?_) (fun c_6 => ?_)
    · refine lv_iload_n hx hb dX0_power_21 rfl (lv_at hl 2 rfl) ?_
      exact W.iret (v := nI (gf_pow a n)) hx hb hr (fun t ht hW => ⟨rfl, ht⟩) (fun _ h => by cases h) dX0_power_22
    · exact absurd (nI_le (Nat.le_refl n) (by omega)) c_6
end
section
/-! the class's contracts at elements (numbers below 256); then the law's field(x, b, c) -/
theorem met_timesN (l : Launch) (h0 : Nat) (a b : Nat) (ha : a < 256) (hb : b < 256) : Met l yX1_times (ws_ yX1_times cX1_times 3 (some .int)) ({ frames := 2, cells := 0, slots := 0, locals := 46 } : Room) (fun v _ => v = ([.ref h0, .int (nI a), .int (nI b)] : List Value).toArray) (QcRead (nI (gf_mul a b))) 0 0 (fun _ => False) := by
  have h := met_times l h0 (nI a) (nI b)
  rw [gl_lo_n ha, gl_lo_n hb] at h
  exact h
theorem met_timesThreeN (l : Launch) (h0 : Nat) (a b c : Nat) (ha : a < 256) (hb : b < 256) (hc : c < 256) : Met l yX1_timesThree (ws_ yX1_timesThree cX1_timesThree 4 (some .int)) ({ frames := 3, cells := 0, slots := 0, locals := 68 } : Room) (fun v _ => v = ([.ref h0, .int (nI a), .int (nI b), .int (nI c)] : List Value).toArray) (QcRead (nI (gf_mul (gf_mul a b) c))) 0 0 (fun _ => False) := by
  have h := met_timesThree l h0 (nI a) (nI b) (nI c)
  rw [gl_lo_n ha, gl_lo_n hb, gl_lo_n hc] at h
  exact h
theorem met_squareN (l : Launch) (h0 : Nat) (a : Nat) (ha : a < 256) : Met l yX1_square (ws_ yX1_square cX1_square 2 (some .int)) ({ frames := 2, cells := 0, slots := 0, locals := 43 } : Room) (fun v _ => v = ([.ref h0, .int (nI a)] : List Value).toArray) (QcRead (nI (gf_sqr a))) 0 0 (fun _ => False) := by
  have h := met_square l h0 (nI a)
  rw [gl_lo_n ha] at h
  exact h
theorem met_inverseN (l : Launch) (h0 : Nat) (a : Nat) (ha : a < 256) : Met l yX1_inverse (ws_ yX1_inverse cX1_inverse 2 (some .int)) ({ frames := 3, cells := 0, slots := 0, locals := 78 } : Room) (fun v _ => v = ([.ref h0, .int (nI a)] : List Value).toArray) (QcRead (gl_inv a)) 0 0 (fun _ => False) := by
  have h := met_inverse l h0 (nI a)
  rw [gl_lo_n ha] at h
  exact h
theorem met_divideN (l : Launch) (h0 : Nat) (a b : Nat) (ha : a < 256) (hb : b < 256) : Met l yX1_divide (ws_ yX1_divide cX1_divide 3 (some .int)) ({ frames := 4, cells := 0, slots := 0, locals := 99 } : Room) (fun v _ => v = ([.ref h0, .int (nI a), .int (nI b)] : List Value).toArray) (QcRead (gl_div a b)) 0 0 (fun _ => False) := by
  have h := met_divide l h0 (nI a) (nI b)
  rw [gl_lo_n ha, gl_lo_n hb] at h
  exact h
theorem met_bpowerN (l : Launch) (dC : Nat → ClassId) (dI : Nat → Nat → Nat) (h0 : Nat) (f n : Nat) (hf : f < 256) (hn : n < 256) : Met l yX1_power (ws_ yX1_power cX1_power 5 (some .int)) ({ frames := 2, cells := 0, slots := 0, locals := 46 } : Room) (va_Pc [.ref h0, .int (nI n)] (fun U => va_P (dC, dI) vwCl [(h0, .inr (0, [.int (nI f)]))] U.heap ∧ va_K (dC, dI) vwCl [] U)) (QcRead (nI (gf_pow f n))) 0 0 (fun _ => False) := by
  have h := met_bpower l dC dI h0 f hf (nI n)
  rw [gl_lo_n hn] at h
  exact h
theorem met_holdN (l : Launch) (dC : Nat → ClassId) (dI : Nat → Nat → Nat) (h0 sz : Nat) (f : Int32) (a : Nat) (ha : a < 256) : Met l yX1_hold (ws_ yX1_hold cX1_hold 2 (some .int)) ({ frames := 0, cells := 0, slots := 0, locals := 0 } : Room) (va_Pc [.ref h0, .int (nI a)] (fun U => U.heap.size = sz ∧ va_P (dC, dI) vwCl [(h0, .inr (0, [.int f]))] U.heap ∧ va_K (dC, dI) vwCl [] U ∧ va_D (fun _ => True) [(h0, .inr (0, [.int f]))])) (va_Qi (fun (r u : Int32) => r = nI a ∧ u = nI a) (BX1 dC dI (va_A [(h0, .inr (0, [.int f]))] sz) h0) (va_A [(h0, .inr (0, [.int f]))] sz)) 0 0 (va_A [(h0, .inr (0, [.int f]))] sz) := by
  have h := met_hold l dC dI h0 sz f (nI a)
  rw [gl_lo_n ha] at h
  exact h
theorem met_foldN (l : Launch) (dC : Nat → ClassId) (dI : Nat → Nat → Nat) (h0 sz : Nat) (f : Int32) (h : Nat) (hf : f = nI h) (hh : h < 256) (a b : Nat) (ha : a < 256) (hb : b < 256) : Met l yX1_fold (ws_ yX1_fold cX1_fold 3 (some .int)) ({ frames := 2, cells := 0, slots := 0, locals := 46 } : Room) (va_Pc [.ref h0, .int (nI a), .int (nI b)] (fun U => U.heap.size = sz ∧ va_P (dC, dI) vwCl [(h0, .inr (0, [.int f]))] U.heap ∧ va_K (dC, dI) vwCl [] U ∧ va_D (fun _ => True) [(h0, .inr (0, [.int f]))])) (va_Qi (fun (r u : Int32) => r = nI (gf_mul h a ^^^ b) ∧ u = nI (gf_mul h a ^^^ b)) (BX1 dC dI (va_A [(h0, .inr (0, [.int f]))] sz) h0) (va_A [(h0, .inr (0, [.int f]))] sz)) 0 0 (va_A [(h0, .inr (0, [.int f]))] sz) := by
  have h := met_fold l dC dI h0 sz f h hf hh (nI a) (nI b)
  rw [gl_lo_n ha, gl_lo_n hb] at h
  exact h
theorem gf_aba {a b : Nat} (ha : a < 256) (hb : b < 256) : gf_mul (gf_mul a b) a = gf_mul (gf_sqr a) b := by
  rw [gf_sqr_eq a ha, gf_assoc ha hb ha, gf_comm hb ha, ← gf_assoc ha ha hb]
end
section
/-! the law's field(x, b, c) -/
set_option maxHeartbeats 4000000 in
set_option maxRecDepth 100000 in
/-- field(x, b, c): true; two arrays of 256 are made -/
theorem met_field (l : Launch) (dC : Nat → ClassId) (dI : Nat → Nat → Nat) (h0 sz : Nat) (f : Int32) (b c0 : Nat) (hb8 : b < 256) (hc8 : c0 < 256) : Met l yX0_field (ws_ yX0_field cX0_field 7 (some .boolean)) ({ frames := 5, cells := 2, slots := 512, locals := 121 } : Room) (va_Pc [.ref h0, .int (nI b), .int (nI c0)] (fun U => U.heap.size = sz ∧ va_P (dC, dI) vwCl [(h0, .inr (0, [.int f]))] U.heap ∧ va_K (dC, dI) vwCl [] U ∧ va_D (fun _ => True) [(h0, .inr (0, [.int f]))])) (va_Qi (fun (r _ : Int32) => r = nI 1) (BX1 dC dI (va_A [(h0, .inr (0, [.int f]))] sz) h0) (va_A [(h0, .inr (0, [.int f]))] sz)) 2 512 (va_A [(h0, .inr (0, [.int f]))] sz) := by
  refine Met.ofW (cc := cX0_field) (maxL := 7) (ret := some .boolean) (by decide) rfl ?_
  intro p e s m args below meth c s₁ B hml hv
  obtain ⟨rfl, hsz, hP, hK, hD0⟩ := hv
  have hx := B.exec
  have hb := B.bytes
  have hr := B.returns
  have hts := atoms_spec (ws := ws_ yX0_field cX0_field 7 (some .boolean)) B.pre
  have hts : ∀ w ∈ lw_all, w.before _ s = true := fun w h => hts w (List.mem_cons_of_mem _ h)
  have hown : s.vm.findClass RX0 = some m.cls := findClass_of_methodNamed B.named
  have hlocks := B.notSynchronized
  subst hsz
  have hD := hD0.self (sz := s.heap.size)
  generalize hAe : va_A [(h0, .inr (0, [.int f]))] s.heap.size = A at hD ⊢
  have hA : ∀ q : Nat, s.heap.size ≤ q → A q := fun q h => by rw [← hAe]; exact Or.inr h
  have hS : va_S A s.heap s.heap [] := va_S.rf
  have hl := lv_entry ([.ref h0, .int (nI b), .int (nI c0)]) (n := 7) (Nat.le_of_ble_eq_true rfl)
  rw [lg_entry_eq]
  generalize (lg_sl ([.ref h0, .int (nI b), .int (nI c0)]) ++ List.replicate (7 - (lg_sl ([.ref h0, .int (nI b), .int (nI c0)])).length) Slot.unset).toArray = ls at hl ⊢
  have hl : lv_has ls 7 [(0, .ref h0), (1, .int (nI b)), (2, .int (nI c0))] := hl
  refine lv_sipush (v := nI 256) hx hb dX0_field_0 (by decide) ?_
  refine va_newa (atype := .boolean) (a0 := (256, .inl (fun _ => 0))) (N' := 256) hx hb (hts _ q83) rfl hK hP hD hS hA (fun _ => rfl) (nI_pos (by decide)) (nI_clamp (by decide)) (Nat.le_of_ble_eq_true rfl) (Nat.le_of_ble_eq_true rfl) (Nat.le_of_ble_eq_true rfl) dX0_field_3 (fun aq cA H hK hP hD hS => ?_)
  have hP : va_P (dC, dI) vwCl [(h0, .inr (0, [.int f])), (aq, .inl (cA, 256, .inl (fun _ => 0)))] H := hP
  have hD : va_D A [(h0, .inr (0, [.int f])), (aq, .inl (cA, 256, .inl (fun _ => 0)))] := hD
  have hK : va_K (dC, dI) vwCl [(cA, .boolean)] s := hK
  refine W.widen (k := 1) (n := 256) (Nat.le_of_ble_eq_true rfl) (Nat.le_of_ble_eq_true rfl) ?_
  refine lv_astore_n (lv' := [(3, .ref aq), (0, .ref h0), (1, .int (nI b)), (2, .int (nI c0))]) hx hb dX0_field_5 rfl hl (by decide) rfl (fun ls hl => ?_)
  refine lv_iconst (v := nI 0) hx hb dX0_field_6 (by decide) ?_
  refine lv_istore (lv' := [(4, .int (nI 0)), (3, .ref aq), (0, .ref h0), (1, .int (nI b)), (2, .int (nI c0))]) hx hb dX0_field_7 hl (by decide) rfl (fun ls hl => ?_)
  refine gl_hloop (pc := 9) (nL := 7) (fun a lv H locs => ∃ (f : Int32) (F : Nat → Int32), lv = [(0, .ref h0), (1, .int (nI b)), (2, .int (nI c0)), (3, .ref aq), (4, .int (nI a))] ∧ va_P (dC, dI) vwCl [(h0, .inr (0, [.int f])), (aq, .inl (cA, 256, .inl F))] H ∧ va_D A [(h0, .inr (0, [.int f])), (aq, .inl (cA, 256, .inl F))] ∧ va_S A s.heap H locs ∧ (b ≠ 0 → ∀ v, v < 256 → (∀ a2, a2 < a → gf_mul a2 b ≠ v) → F v = nI 0)) 256 ?_ ?_ [(0, .ref h0), (1, .int (nI b)), (2, .int (nI c0)), (3, .ref aq), (4, .int (nI 0))] (lv_sub hl [2, 3, 4, 1, 0] rfl) ⟨f, fun _ => 0, rfl, hP, hD, hS, fun _ _ _ _ => rfl⟩
  · intro a ha ih ls lv H locs hl hI
    obtain ⟨f, F, rfl, hP, hD, hS, hF⟩ := hI
    refine lv_iload hx hb dX0_field_9 (lv_at hl 4 rfl) ?_
    refine lv_sipush (v := nI 256) hx hb dX0_field_11 (by decide) ?_
    refine lv_icmp_ge (tgt := 271) hx hb dX0_field_14 (by decide) (fun c_14 => ?_) (fun c_14 => ?_)
    · exact absurd c_14 (nI_ge ha (by decide))
    · refine lv_aload_n hx hb dX0_field_17 rfl (lv_at hl 0 rfl) ?_
      refine lv_iload hx hb dX0_field_18 (lv_at hl 4 rfl) ?_
      refine lv_iload_n hx hb dX0_field_20 rfl (lv_at hl 1 rfl) ?_
      refine gl_call (W.runV (As := [.int (nI a), .int (nI b)]) (rest := []) ⟨hx, hb, hml, hown, hts⟩ (met_timesN l h0 a b ha hb8) (cwV 2 hts (lw_V q15 q16 q17 q1 q18) rfl rfl rfl (by decide +kernel) ⟨Nat.le_of_ble_eq_true rfl, Nat.le_of_ble_eq_true rfl⟩) ⟨fun _ _ _ _ q => q, va_recv hK hP (ci := 0) (q0 := 0) rfl rfl, fun _ _ _ => rfl⟩ rfl rfl hl.1 rfl (lv_room (Nat.le_of_ble_eq_true rfl)) dX0_field_21 ⟨Nat.le_of_ble_eq_true rfl, Nat.le_of_ble_eq_true rfl⟩) ?_
      refine lv_istore (lv' := [(5, .int (nI (gf_mul a b))), (0, .ref h0), (1, .int (nI b)), (2, .int (nI c0)), (3, .ref aq), (4, .int (nI a))]) hx hb dX0_field_24 hl (by decide) rfl (fun ls hl => ?_)
      refine lv_iload hx hb dX0_field_26 (lv_at hl 0 rfl) ?_
      refine lv_iload hx hb dX0_field_28 (lv_at hl 5 rfl) ?_
      refine lv_iload_n hx hb dX0_field_30 rfl (lv_at hl 2 rfl) ?_
      refine gl_call (W.runS (As := [.int (nI a), .int (nI b)]) (rest := [.int (nI (gf_mul a b))]) ⟨hx, hb, hml, hown, hts⟩ (met_product l a b ha hb8) (va_cwS 2 hts (lw_S q71 q72 q0 q73) rfl rfl rfl (by decide +kernel) ⟨Nat.le_of_ble_eq_true rfl, Nat.le_of_ble_eq_true rfl⟩) preEq rfl rfl hl.1 rfl (lv_room (Nat.le_of_ble_eq_true rfl)) dX0_field_31 ⟨Nat.le_of_ble_eq_true rfl, Nat.le_of_ble_eq_true rfl⟩) ?_
      refine lv_icmp_ne (tgt := 70) hx hb dX0_field_34 (by decide) (fun c_34 => ?_) (fun c_34 => ?_)
      · exact absurd rfl c_34
      · refine lv_iload hx hb dX0_field_37 (lv_at hl 0 rfl) ?_
        refine lv_aload_n hx hb dX0_field_39 rfl (lv_at hl 1 rfl) ?_
        refine lv_iload_n hx hb dX0_field_40 rfl (lv_at hl 2 rfl) ?_
        refine lv_iload hx hb dX0_field_41 (lv_at hl 5 rfl) ?_
        refine gl_call (W.runV (As := [.int (nI b), .int (nI a)]) (rest := [.int (nI (gf_mul a b))]) ⟨hx, hb, hml, hown, hts⟩ (met_timesN l h0 b a hb8 ha) (cwV 2 hts (lw_V q15 q16 q17 q1 q18) rfl rfl rfl (by decide +kernel) ⟨Nat.le_of_ble_eq_true rfl, Nat.le_of_ble_eq_true rfl⟩) ⟨fun _ _ _ _ q => q, va_recv hK hP (ci := 0) (q0 := 0) rfl rfl, fun _ _ _ => rfl⟩ rfl rfl hl.1 rfl (lv_room (Nat.le_of_ble_eq_true rfl)) dX0_field_43 ⟨Nat.le_of_ble_eq_true rfl, Nat.le_of_ble_eq_true rfl⟩) ?_
        refine lv_icmp_ne (tgt := 70) hx hb dX0_field_46 (by decide) (fun c_46 => ?_) (fun c_46 => ?_)
        · exact absurd (by rw [gf_comm hb8 ha]) c_46
        · refine lv_aload_n hx hb dX0_field_49 rfl (lv_at hl 1 rfl) ?_
          refine lv_iload hx hb dX0_field_50 (lv_at hl 5 rfl) ?_
          refine lv_iload_n hx hb dX0_field_52 rfl (lv_at hl 3 rfl) ?_
          refine lv_ixor hx hb dX0_field_53 ?_
          refine gl_to (y := nI (a ^^^ c0)) (nx_xor _ _) ?_
          refine lv_iload_n hx hb dX0_field_54 rfl (lv_at hl 2 rfl) ?_
          refine gl_call (W.runV (As := [.int (nI (a ^^^ c0)), .int (nI b)]) (rest := []) ⟨hx, hb, hml, hown, hts⟩ (met_timesN l h0 (a ^^^ c0) b (gf_x_lt ha hc8) hb8) (cwV 2 hts (lw_V q15 q16 q17 q1 q18) rfl rfl rfl (by decide +kernel) ⟨Nat.le_of_ble_eq_true rfl, Nat.le_of_ble_eq_true rfl⟩) ⟨fun _ _ _ _ q => q, va_recv hK hP (ci := 0) (q0 := 0) rfl rfl, fun _ _ _ => rfl⟩ rfl rfl hl.1 rfl (lv_room (Nat.le_of_ble_eq_true rfl)) dX0_field_55 ⟨Nat.le_of_ble_eq_true rfl, Nat.le_of_ble_eq_true rfl⟩) ?_
          refine lv_iload hx hb dX0_field_58 (lv_at hl 0 rfl) ?_
          refine lv_aload_n hx hb dX0_field_60 rfl (lv_at hl 1 rfl) ?_
          refine lv_iload_n hx hb dX0_field_61 rfl (lv_at hl 3 rfl) ?_
          refine lv_iload_n hx hb dX0_field_62 rfl (lv_at hl 2 rfl) ?_
          refine gl_call (W.runV (As := [.int (nI c0), .int (nI b)]) (rest := [.int (nI (gf_mul a b)), .int (nI (gf_mul (a ^^^ c0) b))]) ⟨hx, hb, hml, hown, hts⟩ (met_timesN l h0 c0 b hc8 hb8) (cwV 2 hts (lw_V q15 q16 q17 q1 q18) rfl rfl rfl (by decide +kernel) ⟨Nat.le_of_ble_eq_true rfl, Nat.le_of_ble_eq_true rfl⟩) ⟨fun _ _ _ _ q => q, va_recv hK hP (ci := 0) (q0 := 0) rfl rfl, fun _ _ _ => rfl⟩ rfl rfl hl.1 rfl (lv_room (Nat.le_of_ble_eq_true rfl)) dX0_field_63 ⟨Nat.le_of_ble_eq_true rfl, Nat.le_of_ble_eq_true rfl⟩) ?_
          refine lv_ixor hx hb dX0_field_66 ?_
          refine gl_to (y := nI (gf_mul a b ^^^ gf_mul c0 b)) (nx_xor _ _) ?_
          refine lv_icmp_eq (tgt := 72) hx hb dX0_field_67 (by decide) (fun c_67 => ?_) (fun c_67 => ?_)
          · refine gl_meet (nL := 7) 83 [(0, .ref h0), (1, .int (nI b)), (2, .int (nI c0)), (3, .ref aq), (4, .int (nI a)), (5, .int (nI (gf_mul a b)))] [] ?_ (fun h83 => ?_)
            · intro ls hl
              refine gl_meet (nL := 7) 105 [(0, .ref h0), (1, .int (nI b)), (2, .int (nI c0)), (3, .ref aq), (4, .int (nI a)), (5, .int (nI (gf_mul a b)))] [] ?_ (fun h105 => ?_)
              · intro ls hl
                refine lv_aload_n hx hb dX0_field_105 rfl (lv_at hl 3 rfl) ?_
                refine lv_iload hx hb dX0_field_106 (lv_at hl 5 rfl) ?_
                refine lv_iconst (v := nI 1) hx hb dX0_field_108 (by decide) ?_
                have htl : gf_mul a b < 256 := gf_lt a b
                refine va_zast hx hb hK hP hD hS 1 0 rfl rfl (vp_in_nI htl (by decide)) dX0_field_109 (fun H locs hP hD hS => ?_)
                obtain ⟨F1, hF1⟩ : ∃ z, z = upd F (nI (gf_mul a b)).toNatClampNeg (vp_nar .boolean (nI 1)) := ⟨_, rfl⟩
                have hP : va_P (dC, dI) vwCl [(h0, .inr (0, [.int f])), (aq, .inl (cA, 256, .inl F1))] H := by rw [hF1]; exact hP
                have hD : va_D A [(h0, .inr (0, [.int f])), (aq, .inl (cA, 256, .inl F1))] := by rw [hF1]; exact hD
                have hF1z : b ≠ 0 → ∀ v, v < 256 → (∀ a2, a2 < a + 1 → gf_mul a2 b ≠ v) → F1 v = nI 0 := by
                  intro hb0 v hv hno
                  rw [hF1, gl_cl htl, pk_un (fun h => hno a (Nat.lt_succ_self a) h.symm)]
                  exact hF hb0 v hv (fun a2 h2 => hno a2 (Nat.lt_succ_of_lt h2))
                refine lv_aload_n hx hb dX0_field_110 rfl (lv_at hl 0 rfl) ?_
                refine lv_iload hx hb dX0_field_111 (lv_at hl 4 rfl) ?_
                refine lv_iload_n hx hb dX0_field_113 rfl (lv_at hl 1 rfl) ?_
                refine lv_ixor hx hb dX0_field_114 ?_
                refine gl_to (y := nI (a ^^^ b)) (nx_xor _ _) ?_
                refine gl_call (W.runV (As := [.int (nI (a ^^^ b))]) (rest := []) ⟨hx, hb, hml, hown, hts⟩ (met_squareN l h0 (a ^^^ b) (gf_x_lt ha hb8)) (cwV 1 hts (lw_V q33 q34 q35 q1 q36) rfl rfl rfl (by decide +kernel) ⟨Nat.le_of_ble_eq_true rfl, Nat.le_of_ble_eq_true rfl⟩) ⟨fun _ _ _ _ q => q, va_recv hK hP (ci := 0) (q0 := 0) rfl rfl, fun _ _ _ => rfl⟩ rfl rfl hl.1 rfl (lv_room (Nat.le_of_ble_eq_true rfl)) dX0_field_115 ⟨Nat.le_of_ble_eq_true rfl, Nat.le_of_ble_eq_true rfl⟩) ?_
                refine lv_aload_n hx hb dX0_field_118 rfl (lv_at hl 0 rfl) ?_
                refine lv_iload hx hb dX0_field_119 (lv_at hl 4 rfl) ?_
                refine gl_call (W.runV (As := [.int (nI a)]) (rest := [.int (nI (gf_sqr (a ^^^ b)))]) ⟨hx, hb, hml, hown, hts⟩ (met_squareN l h0 a ha) (cwV 1 hts (lw_V q33 q34 q35 q1 q36) rfl rfl rfl (by decide +kernel) ⟨Nat.le_of_ble_eq_true rfl, Nat.le_of_ble_eq_true rfl⟩) ⟨fun _ _ _ _ q => q, va_recv hK hP (ci := 0) (q0 := 0) rfl rfl, fun _ _ _ => rfl⟩ rfl rfl hl.1 rfl (lv_room (Nat.le_of_ble_eq_true rfl)) dX0_field_121 ⟨Nat.le_of_ble_eq_true rfl, Nat.le_of_ble_eq_true rfl⟩) ?_
                refine lv_aload_n hx hb dX0_field_124 rfl (lv_at hl 0 rfl) ?_
                refine lv_iload_n hx hb dX0_field_125 rfl (lv_at hl 1 rfl) ?_
                refine gl_call (W.runV (As := [.int (nI b)]) (rest := [.int (nI (gf_sqr a)), .int (nI (gf_sqr (a ^^^ b)))]) ⟨hx, hb, hml, hown, hts⟩ (met_squareN l h0 b hb8) (cwV 1 hts (lw_V q33 q34 q35 q1 q36) rfl rfl rfl (by decide +kernel) ⟨Nat.le_of_ble_eq_true rfl, Nat.le_of_ble_eq_true rfl⟩) ⟨fun _ _ _ _ q => q, va_recv hK hP (ci := 0) (q0 := 0) rfl rfl, fun _ _ _ => rfl⟩ rfl rfl hl.1 rfl (lv_room (Nat.le_of_ble_eq_true rfl)) dX0_field_126 ⟨Nat.le_of_ble_eq_true rfl, Nat.le_of_ble_eq_true rfl⟩) ?_
                refine lv_ixor hx hb dX0_field_129 ?_
                refine gl_to (y := nI (gf_sqr a ^^^ gf_sqr b)) (nx_xor _ _) ?_
                refine lv_icmp_ne (tgt := 156) hx hb dX0_field_130 (by decide) (fun c_130 => ?_) (fun c_130 => ?_)
                · exact absurd (by rw [gf_sqr_x ha hb8]) c_130
                · refine lv_aload_n hx hb dX0_field_133 rfl (lv_at hl 0 rfl) ?_
                  refine lv_iload hx hb dX0_field_134 (lv_at hl 4 rfl) ?_
                  refine lv_iload_n hx hb dX0_field_136 rfl (lv_at hl 1 rfl) ?_
                  refine lv_iload hx hb dX0_field_137 (lv_at hl 4 rfl) ?_
                  refine gl_call (W.runV (As := [.int (nI a), .int (nI b), .int (nI a)]) (rest := []) ⟨hx, hb, hml, hown, hts⟩ (met_timesThreeN l h0 a b a ha hb8 ha) (cwV 3 hts (lw_V q25 q26 q27 q1 q28) rfl rfl rfl (by decide +kernel) ⟨Nat.le_of_ble_eq_true rfl, Nat.le_of_ble_eq_true rfl⟩) ⟨fun _ _ _ _ q => q, va_recv hK hP (ci := 0) (q0 := 0) rfl rfl, fun _ _ _ => rfl⟩ rfl rfl hl.1 rfl (lv_room (Nat.le_of_ble_eq_true rfl)) dX0_field_139 ⟨Nat.le_of_ble_eq_true rfl, Nat.le_of_ble_eq_true rfl⟩) ?_
                  refine lv_aload_n hx hb dX0_field_142 rfl (lv_at hl 0 rfl) ?_
                  refine lv_aload_n hx hb dX0_field_143 rfl (lv_at hl 0 rfl) ?_
                  refine lv_iload hx hb dX0_field_144 (lv_at hl 4 rfl) ?_
                  refine gl_call (W.runV (As := [.int (nI a)]) (rest := [.ref h0, .int (nI (gf_mul (gf_mul a b) a))]) ⟨hx, hb, hml, hown, hts⟩ (met_squareN l h0 a ha) (cwV 1 hts (lw_V q33 q34 q35 q1 q36) rfl rfl rfl (by decide +kernel) ⟨Nat.le_of_ble_eq_true rfl, Nat.le_of_ble_eq_true rfl⟩) ⟨fun _ _ _ _ q => q, va_recv hK hP (ci := 0) (q0 := 0) rfl rfl, fun _ _ _ => rfl⟩ rfl rfl hl.1 rfl (lv_room (Nat.le_of_ble_eq_true rfl)) dX0_field_146 ⟨Nat.le_of_ble_eq_true rfl, Nat.le_of_ble_eq_true rfl⟩) ?_
                  refine lv_iload_n hx hb dX0_field_149 rfl (lv_at hl 1 rfl) ?_
                  refine gl_call (W.runV (As := [.int (nI (gf_sqr a)), .int (nI b)]) (rest := [.int (nI (gf_mul (gf_mul a b) a))]) ⟨hx, hb, hml, hown, hts⟩ (met_timesN l h0 (gf_sqr a) b (gf_sqr_lt a) hb8) (cwV 2 hts (lw_V q15 q16 q17 q1 q18) rfl rfl rfl (by decide +kernel) ⟨Nat.le_of_ble_eq_true rfl, Nat.le_of_ble_eq_true rfl⟩) ⟨fun _ _ _ _ q => q, va_recv hK hP (ci := 0) (q0 := 0) rfl rfl, fun _ _ _ => rfl⟩ rfl rfl hl.1 rfl (lv_room (Nat.le_of_ble_eq_true rfl)) dX0_field_150 ⟨Nat.le_of_ble_eq_true rfl, Nat.le_of_ble_eq_true rfl⟩) ?_
                  refine lv_icmp_eq (tgt := 158) hx hb dX0_field_153 (by decide) (fun c_153 => ?_) (fun c_153 => ?_)
                  · refine lv_aload_n hx hb dX0_field_158 rfl (lv_at hl 0 rfl) ?_
                    refine lv_iload hx hb dX0_field_159 (lv_at hl 4 rfl) ?_
                    refine gl_call (W.runV (As := [.int (nI a)]) (rest := []) ⟨hx, hb, hml, hown, hts⟩ (met_inverseN l h0 a ha) (cwV 1 hts (lw_V q40 q41 q42 q1 q43) rfl rfl rfl (by decide +kernel) ⟨Nat.le_of_ble_eq_true rfl, Nat.le_of_ble_eq_true rfl⟩) ⟨fun _ _ _ _ q => q, va_recv hK hP (ci := 0) (q0 := 0) rfl rfl, fun _ _ _ => rfl⟩ rfl rfl hl.1 rfl (lv_room (Nat.le_of_ble_eq_true rfl)) dX0_field_161 ⟨Nat.le_of_ble_eq_true rfl, Nat.le_of_ble_eq_true rfl⟩) ?_
                    refine lv_istore (lv' := [(6, .int (gl_inv a)), (0, .ref h0), (1, .int (nI b)), (2, .int (nI c0)), (3, .ref aq), (4, .int (nI a)), (5, .int (nI (gf_mul a b)))]) hx hb dX0_field_164 hl (by decide) rfl (fun ls hl => ?_)
                    refine gl_meet (nL := 7) 211 [(0, .ref h0), (1, .int (nI b)), (2, .int (nI c0)), (3, .ref aq), (4, .int (nI a)), (6, .int (gl_inv a))] [] ?_ (fun h211 => ?_)
                    · intro ls hl
                      refine lv_aload_n hx hb dX0_field_211 rfl (lv_at hl 0 rfl) ?_
                      refine lv_iload hx hb dX0_field_212 (lv_at hl 4 rfl) ?_
                      have hPc := hP.sub (ws' := [(h0, .inr (0, [.int f]))]) [0] rfl
                      have hDc := hD.sub (ws' := [(h0, .inr (0, [.int f]))]) [0] (by decide) rfl
                      have hKc := hK.sub (tys' := []) [] rfl
                      have hFc := va_free (wc := [(h0, .inr (0, [.int f]))]) hD hS hA [0] rfl
                      refine va_calli (va_runV (As := [.int (nI a)]) (rest := []) ⟨hx, hb, hml, hown, hts⟩ (met_holdN l dC dI h0 H.size f a ha) (cwV 1 hts (lw_V q56 q57 q58 q1 q59) rfl rfl rfl (by decide +kernel) ⟨Nat.le_of_ble_eq_true rfl, Nat.le_of_ble_eq_true rfl⟩) ⟨fun a U g mk q => by obtain ⟨q0, q1, qP, qK, qD⟩ := q; exact ⟨q0, q1, qP, va_K.moved (u := U) (U := U.calling g mk a) (Vm.Alike.refl U.vm) qK, qD⟩, va_recv hKc hPc (ci := 0) (q0 := 0) rfl rfl, fun U hU hW => ⟨rfl, by rw [hU], by rw [hU]; exact hPc, va_K.moved hW.alike hKc, hDc.weaken (fun _ _ _ _ => trivial)⟩⟩ rfl rfl hl.1 rfl (lv_room (Nat.le_of_ble_eq_true rfl)) dX0_field_214 ⟨Nat.le_of_ble_eq_true rfl, Nat.le_of_ble_eq_true rfl⟩) hS (fun q _ h => hFc q h) hFc (fun r_ u_ t H1 locs ht hvm hw hB hz1 hk1 hS => ?_)
                      have hw : r_ = nI a ∧ u_ = nI a := hw
                      obtain ⟨rfl, rfl⟩ := hw
                      obtain ⟨hP1, hK1, hD1⟩ := hB
                      rw [ht] at hP1
                      obtain ⟨hP, hD⟩ := va_join (wr := [(aq, .inl (cA, 256, .inl F1))]) (w1 := [(h0, .inr (0, [.int (nI a)]))]) hP hD [0] [1] rfl rfl (by decide) (by decide) hk1 hFc hP1 hD1
                      generalize H1 = H at hP hS ⊢
                      have hP : va_P (dC, dI) vwCl [(h0, .inr (0, [.int (nI a)])), (aq, .inl (cA, 256, .inl F1))] H := hP.sub [1, 0] rfl
                      have hD : va_D A [(h0, .inr (0, [.int (nI a)])), (aq, .inl (cA, 256, .inl F1))] := hD.sub [1, 0] (by decide) rfl
                      refine lv_iload hx hb dX0_field_217 (lv_at hl 4 rfl) ?_
                      refine lv_icmp_ne (tgt := 263) hx hb dX0_field_219 (by decide) (fun c_219 => ?_) (fun c_219 => ?_)
                      · exact absurd rfl c_219
                      · refine lv_aload_n hx hb dX0_field_222 rfl (lv_at hl 0 rfl) ?_
                        refine lv_sipush (v := nI 255) hx hb dX0_field_223 (by decide) ?_
                        refine gl_call (W.runV (As := [.int (nI 255)]) (rest := []) ⟨hx, hb, hml, hown, hts⟩ (met_bpowerN l dC dI h0 a 255 ha (by decide)) (cwV 1 hts (lw_V q64 q65 q66 q1 q67) rfl rfl rfl (by decide +kernel) ⟨Nat.le_of_ble_eq_true rfl, Nat.le_of_ble_eq_true rfl⟩) ⟨fun a U g mk q => ⟨q.1, q.2.1, va_K.moved (u := U) (U := U.calling g mk a) (Vm.Alike.refl U.vm) q.2.2⟩, va_recv hK hP (ci := 0) (q0 := 0) rfl rfl, fun U hU hW => ⟨rfl, by rw [hU]; exact hP.sub [0] rfl, va_K.moved hW.alike (hK.sub (tys' := []) [] rfl)⟩⟩ rfl rfl hl.1 rfl (lv_room (Nat.le_of_ble_eq_true rfl)) dX0_field_226 ⟨Nat.le_of_ble_eq_true rfl, Nat.le_of_ble_eq_true rfl⟩) ?_
                        refine lv_iload hx hb dX0_field_229 (lv_at hl 4 rfl) ?_
                        refine lv_if_ne (tgt := 238) hx hb dX0_field_231 (by decide) (fun c_231 => ?_) (fun c_231 => ?_)
                        · have ha0 : a ≠ 0 := fun h => c_231 (by rw [h]; exact nI_0)
                          refine lv_iconst (v := nI 1) hx hb dX0_field_238 (by decide) ?_
                          refine lv_icmp_ne (tgt := 263) hx hb dX0_field_239 (by decide) (fun c_239 => ?_) (fun c_239 => ?_)
                          · exact absurd (by rw [gf_pow_255 ha ha0]) c_239
                          · refine lv_aload_n hx hb dX0_field_242 rfl (lv_at hl 0 rfl) ?_
                            refine lv_sipush (v := nI 254) hx hb dX0_field_243 (by decide) ?_
                            refine gl_call (W.runV (As := [.int (nI 254)]) (rest := []) ⟨hx, hb, hml, hown, hts⟩ (met_bpowerN l dC dI h0 a 254 ha (by decide)) (cwV 1 hts (lw_V q64 q65 q66 q1 q67) rfl rfl rfl (by decide +kernel) ⟨Nat.le_of_ble_eq_true rfl, Nat.le_of_ble_eq_true rfl⟩) ⟨fun a U g mk q => ⟨q.1, q.2.1, va_K.moved (u := U) (U := U.calling g mk a) (Vm.Alike.refl U.vm) q.2.2⟩, va_recv hK hP (ci := 0) (q0 := 0) rfl rfl, fun U hU hW => ⟨rfl, by rw [hU]; exact hP.sub [0] rfl, va_K.moved hW.alike (hK.sub (tys' := []) [] rfl)⟩⟩ rfl rfl hl.1 rfl (lv_room (Nat.le_of_ble_eq_true rfl)) dX0_field_246 ⟨Nat.le_of_ble_eq_true rfl, Nat.le_of_ble_eq_true rfl⟩) ?_
                            refine lv_iload hx hb dX0_field_249 (lv_at hl 4 rfl) ?_
                            refine lv_if_ne (tgt := 258) hx hb dX0_field_251 (by decide) (fun c_251 => ?_) (fun c_251 => ?_)
                            · refine lv_iload hx hb dX0_field_258 (lv_at hl 5 rfl) ?_
                              refine lv_icmp_eq (tgt := 265) hx hb dX0_field_260 (by decide) (fun c_260 => ?_) (fun c_260 => ?_)
                              · refine lv_iinc (v := nI (a + 1)) (lv' := [(4, .int (nI (a + 1))), (0, .ref h0), (1, .int (nI b)), (2, .int (nI c0)), (3, .ref aq), (6, .int (gl_inv a))]) hx hb dX0_field_265 hl (k := 4) rfl (gl_inc a) (by decide) rfl (fun ls hl => ?_)
                                refine lv_goto (tgt := 9) hx hb dX0_field_268 (by decide) ?_
                                exact ih ls [(0, .ref h0), (1, .int (nI b)), (2, .int (nI c0)), (3, .ref aq), (4, .int (nI (a + 1)))] H locs (lv_sub hl [1, 2, 3, 4, 0] rfl) ⟨nI a, F1, rfl, hP, hD, hS, hF1z⟩
                              · exact absurd (by rw [gf_pow_254 ha]; exact (if_neg ha0).symm) c_260
                            · exact absurd ((gl_eq ha (by decide)).mp (c_251.trans nI_0.symm)) ha0
                        · have ha0 : a = 0 := (gl_eq ha (by decide)).mp (c_231.trans nI_0.symm)
                          refine lv_iconst (v := nI 0) hx hb dX0_field_234 (by decide) ?_
                          refine lv_goto (tgt := 239) hx hb dX0_field_235 (by decide) ?_
                          refine lv_icmp_ne (tgt := 263) hx hb dX0_field_239 (by decide) (fun c_239 => ?_) (fun c_239 => ?_)
                          · exact absurd (by rw [ha0, gf_pow_z 254]) c_239
                          · refine lv_aload_n hx hb dX0_field_242 rfl (lv_at hl 0 rfl) ?_
                            refine lv_sipush (v := nI 254) hx hb dX0_field_243 (by decide) ?_
                            refine gl_call (W.runV (As := [.int (nI 254)]) (rest := []) ⟨hx, hb, hml, hown, hts⟩ (met_bpowerN l dC dI h0 a 254 ha (by decide)) (cwV 1 hts (lw_V q64 q65 q66 q1 q67) rfl rfl rfl (by decide +kernel) ⟨Nat.le_of_ble_eq_true rfl, Nat.le_of_ble_eq_true rfl⟩) ⟨fun a U g mk q => ⟨q.1, q.2.1, va_K.moved (u := U) (U := U.calling g mk a) (Vm.Alike.refl U.vm) q.2.2⟩, va_recv hK hP (ci := 0) (q0 := 0) rfl rfl, fun U hU hW => ⟨rfl, by rw [hU]; exact hP.sub [0] rfl, va_K.moved hW.alike (hK.sub (tys' := []) [] rfl)⟩⟩ rfl rfl hl.1 rfl (lv_room (Nat.le_of_ble_eq_true rfl)) dX0_field_246 ⟨Nat.le_of_ble_eq_true rfl, Nat.le_of_ble_eq_true rfl⟩) ?_
                            refine lv_iload hx hb dX0_field_249 (lv_at hl 4 rfl) ?_
                            refine lv_if_ne (tgt := 258) hx hb dX0_field_251 (by decide) (fun c_251 => ?_) (fun c_251 => ?_)
                            · exact absurd (by rw [ha0]; exact nI_0) c_251
                            · refine lv_iconst (v := nI 0) hx hb dX0_field_254 (by decide) ?_
                              refine lv_goto (tgt := 260) hx hb dX0_field_255 (by decide) ?_
                              refine lv_icmp_eq (tgt := 265) hx hb dX0_field_260 (by decide) (fun c_260 => ?_) (fun c_260 => ?_)
                              · refine lv_iinc (v := nI (a + 1)) (lv' := [(4, .int (nI (a + 1))), (0, .ref h0), (1, .int (nI b)), (2, .int (nI c0)), (3, .ref aq), (6, .int (gl_inv a))]) hx hb dX0_field_265 hl (k := 4) rfl (gl_inc a) (by decide) rfl (fun ls hl => ?_)
                                refine lv_goto (tgt := 9) hx hb dX0_field_268 (by decide) ?_
                                exact ih ls [(0, .ref h0), (1, .int (nI b)), (2, .int (nI c0)), (3, .ref aq), (4, .int (nI (a + 1)))] H locs (lv_sub hl [1, 2, 3, 4, 0] rfl) ⟨nI a, F1, rfl, hP, hD, hS, hF1z⟩
                              · exact absurd (by rw [ha0, gf_pow_z 253]) c_260
                    · refine lv_iload hx hb dX0_field_166 (lv_at hl 5 rfl) ?_
                      refine lv_if_ne (tgt := 180) hx hb dX0_field_168 (by decide) (fun c_168 => ?_) (fun c_168 => ?_)
                      · have ha0 : a ≠ 0 := fun h => c_168 (by rw [h]; exact nI_0)
                        have hin : gl_inv a = nI (gf_inv a) := if_neg ha0
                        rw [hin] at hl
                        refine lv_aload_n hx hb dX0_field_180 rfl (lv_at hl 1 rfl) ?_
                        refine lv_iload hx hb dX0_field_181 (lv_at hl 5 rfl) ?_
                        refine lv_iload hx hb dX0_field_183 (lv_at hl 0 rfl) ?_
                        refine gl_call (W.runV (As := [.int (nI a), .int (nI (gf_inv a))]) (rest := []) ⟨hx, hb, hml, hown, hts⟩ (met_timesN l h0 a (gf_inv a) ha (gf_inv_lt a)) (cwV 2 hts (lw_V q15 q16 q17 q1 q18) rfl rfl rfl (by decide +kernel) ⟨Nat.le_of_ble_eq_true rfl, Nat.le_of_ble_eq_true rfl⟩) ⟨fun _ _ _ _ q => q, va_recv hK hP (ci := 0) (q0 := 0) rfl rfl, fun _ _ _ => rfl⟩ rfl rfl hl.1 rfl (lv_room (Nat.le_of_ble_eq_true rfl)) dX0_field_185 ⟨Nat.le_of_ble_eq_true rfl, Nat.le_of_ble_eq_true rfl⟩) ?_
                        refine lv_iconst (v := nI 1) hx hb dX0_field_188 (by decide) ?_
                        refine lv_icmp_ne (tgt := 209) hx hb dX0_field_189 (by decide) (fun c_189 => ?_) (fun c_189 => ?_)
                        · exact absurd (by rw [gf_inv_r a ha ha0]) c_189
                        · refine lv_aload_n hx hb dX0_field_192 rfl (lv_at hl 1 rfl) ?_
                          refine lv_iload_n hx hb dX0_field_193 rfl (lv_at hl 2 rfl) ?_
                          refine lv_iload hx hb dX0_field_194 (lv_at hl 5 rfl) ?_
                          refine gl_call (W.runV (As := [.int (nI b), .int (nI a)]) (rest := []) ⟨hx, hb, hml, hown, hts⟩ (met_divideN l h0 b a hb8 ha) (cwV 2 hts (lw_V q48 q49 q50 q1 q51) rfl rfl rfl (by decide +kernel) ⟨Nat.le_of_ble_eq_true rfl, Nat.le_of_ble_eq_true rfl⟩) ⟨fun _ _ _ _ q => q, va_recv hK hP (ci := 0) (q0 := 0) rfl rfl, fun _ _ _ => rfl⟩ rfl rfl hl.1 rfl (lv_room (Nat.le_of_ble_eq_true rfl)) dX0_field_196 ⟨Nat.le_of_ble_eq_true rfl, Nat.le_of_ble_eq_true rfl⟩) ?_
                          refine lv_aload_n hx hb dX0_field_199 rfl (lv_at hl 1 rfl) ?_
                          refine lv_iload_n hx hb dX0_field_200 rfl (lv_at hl 2 rfl) ?_
                          refine lv_iload hx hb dX0_field_201 (lv_at hl 0 rfl) ?_
                          refine gl_call (W.runV (As := [.int (nI b), .int (nI (gf_inv a))]) (rest := [.int (gl_div b a)]) ⟨hx, hb, hml, hown, hts⟩ (met_timesN l h0 b (gf_inv a) hb8 (gf_inv_lt a)) (cwV 2 hts (lw_V q15 q16 q17 q1 q18) rfl rfl rfl (by decide +kernel) ⟨Nat.le_of_ble_eq_true rfl, Nat.le_of_ble_eq_true rfl⟩) ⟨fun _ _ _ _ q => q, va_recv hK hP (ci := 0) (q0 := 0) rfl rfl, fun _ _ _ => rfl⟩ rfl rfl hl.1 rfl (lv_room (Nat.le_of_ble_eq_true rfl)) dX0_field_203 ⟨Nat.le_of_ble_eq_true rfl, Nat.le_of_ble_eq_true rfl⟩) ?_
                          refine lv_icmp_eq (tgt := 211) hx hb dX0_field_206 (by decide) (fun c_206 => ?_) (fun c_206 => ?_)
                          · exact h211 ls (by rw [hin]; exact lv_sub hl [1, 2, 3, 4, 5, 0] rfl)
                          · exact absurd (if_neg ha0) c_206
                      · have ha0 : a = 0 := (gl_eq ha (by decide)).mp (c_168.trans nI_0.symm)
                        refine lv_iload hx hb dX0_field_171 (lv_at hl 0 rfl) ?_
                        refine lv_iconst (v := (-1)) hx hb dX0_field_173 (by decide) ?_
                        refine lv_icmp_eq (tgt := 211) hx hb dX0_field_174 (by decide) (fun c_174 => ?_) (fun c_174 => ?_)
                        · exact h211 ls (lv_sub hl [1, 2, 3, 4, 5, 0] rfl)
                        · exact absurd (if_pos ha0) c_174
                  · exact absurd (by rw [gf_aba ha hb8]) c_153
              · refine lv_aload_n hx hb dX0_field_83 rfl (lv_at hl 0 rfl) ?_
                refine lv_iload hx hb dX0_field_84 (lv_at hl 5 rfl) ?_
                refine lv_iload_n hx hb dX0_field_86 rfl (lv_at hl 1 rfl) ?_
                refine gl_call (W.runV (As := [.int (nI (gf_mul a b)), .int (nI b)]) (rest := []) ⟨hx, hb, hml, hown, hts⟩ (met_divideN l h0 (gf_mul a b) b (gf_lt a b) hb8) (cwV 2 hts (lw_V q48 q49 q50 q1 q51) rfl rfl rfl (by decide +kernel) ⟨Nat.le_of_ble_eq_true rfl, Nat.le_of_ble_eq_true rfl⟩) ⟨fun _ _ _ _ q => q, va_recv hK hP (ci := 0) (q0 := 0) rfl rfl, fun _ _ _ => rfl⟩ rfl rfl hl.1 rfl (lv_room (Nat.le_of_ble_eq_true rfl)) dX0_field_87 ⟨Nat.le_of_ble_eq_true rfl, Nat.le_of_ble_eq_true rfl⟩) ?_
                refine lv_iload_n hx hb dX0_field_90 rfl (lv_at hl 1 rfl) ?_
                refine lv_if_ne (tgt := 98) hx hb dX0_field_91 (by decide) (fun c_91 => ?_) (fun c_91 => ?_)
                · have hb0 : b ≠ 0 := fun h => c_91 (by rw [h]; exact nI_0)
                  refine lv_iload hx hb dX0_field_98 (lv_at hl 4 rfl) ?_
                  refine lv_icmp_eq (tgt := 105) hx hb dX0_field_100 (by decide) (fun c_100 => ?_) (fun c_100 => ?_)
                  · exact h105 ls (lv_sub hl [0, 1, 2, 3, 4, 5] rfl)
                  · exact absurd ((if_neg hb0).trans (by rw [gf_undo ha hb8 hb0])) c_100
                · have hb0 : b = 0 := (gl_eq hb8 (by decide)).mp (c_91.trans nI_0.symm)
                  refine lv_iconst (v := (-1)) hx hb dX0_field_94 (by decide) ?_
                  refine lv_goto (tgt := 100) hx hb dX0_field_95 (by decide) ?_
                  refine lv_icmp_eq (tgt := 105) hx hb dX0_field_100 (by decide) (fun c_100 => ?_) (fun c_100 => ?_)
                  · exact h105 ls (lv_sub hl [0, 1, 2, 3, 4, 5] rfl)
                  · exact absurd (if_pos hb0) c_100
            · refine lv_iload_n hx hb dX0_field_72 rfl (lv_at hl 2 rfl) ?_
              refine lv_if_eq (tgt := 83) hx hb dX0_field_73 (by decide) (fun c_73 => ?_) (fun c_73 => ?_)
              · exact h83 ls (lv_sub hl [1, 2, 3, 4, 5, 0] rfl)
              · have hb0 : b ≠ 0 := fun h => c_73 (by rw [h]; exact nI_0)
                refine lv_aload_n hx hb dX0_field_76 rfl (lv_at hl 4 rfl) ?_
                refine lv_iload hx hb dX0_field_77 (lv_at hl 0 rfl) ?_
                refine va_zald hx hb hK hP 1 0 rfl rfl (vp_in_nI (gf_lt a b) (by decide)) dX0_field_79 ?_
                refine gl_to (y := nI 0) (by rw [gl_cl (gf_lt a b)]; exact hF hb0 _ (gf_lt a b) (fun a2 h2 h => Nat.ne_of_lt h2 (gf_cancel (Nat.lt_trans h2 ha) ha hb8 hb0 h))) ?_
                refine lv_if_ne (tgt := 103) hx hb dX0_field_80 (by decide) (fun c_80 => ?_) (fun c_80 => ?_)
                · exact absurd nI_0 c_80
                · exact h83 ls (lv_sub hl [1, 2, 3, 4, 5, 0] rfl)
          · exact absurd (by rw [gf_mul_xl]) c_67
  · intro ls lv H locs hl hI
    obtain ⟨f, F, rfl, hP, hD, hS, -⟩ := hI
    have hl : lv_has ls 7 [(0, .ref h0), (1, .int (nI b)), (2, .int (nI c0)), (3, .ref aq), (4, .int (nI 256))] := hl
    refine lv_iload hx hb dX0_field_9 (lv_at hl 4 rfl) ?_
    refine lv_sipush (v := nI 256) hx hb dX0_field_11 (by decide) ?_
    refine lv_icmp_ge (tgt := 271) hx hb dX0_field_14 (by decide) (fun c_14 => ?_) (fun c_14 => ?_)
    · refine lv_sipush (v := nI 256) hx hb dX0_field_271 (by decide) ?_
      refine va_newa (atype := .boolean) (a0 := (256, .inl (fun _ => 0))) (N' := 256) hx hb (hts _ q83) rfl hK hP hD hS hA (fun _ => rfl) (nI_pos (by decide)) (nI_clamp (by decide)) (Nat.le_of_ble_eq_true rfl) (Nat.le_of_ble_eq_true rfl) (Nat.le_of_ble_eq_true rfl) dX0_field_274 (fun bq cB H hK hP hD hS => ?_)
      have hP : va_P (dC, dI) vwCl [(h0, .inr (0, [.int f])), (aq, .inl (cA, 256, .inl F)), (bq, .inl (cB, 256, .inl (fun _ => 0)))] H := hP
      have hD : va_D A [(h0, .inr (0, [.int f])), (aq, .inl (cA, 256, .inl F)), (bq, .inl (cB, 256, .inl (fun _ => 0)))] := hD
      have hK : va_K (dC, dI) vwCl [(cA, .boolean), (cB, .boolean)] s := hK
      refine W.widen (k := 2) (n := 512) (Nat.le_of_ble_eq_true rfl) (Nat.le_of_ble_eq_true rfl) ?_
      refine lv_astore (lv' := [(4, .ref bq), (0, .ref h0), (1, .int (nI b)), (2, .int (nI c0)), (3, .ref aq)]) hx hb dX0_field_276 hl (by decide) rfl (fun ls hl => ?_)
      refine lv_aload_n hx hb dX0_field_278 rfl (lv_at hl 1 rfl) ?_
      refine lv_iconst (v := nI 2) hx hb dX0_field_279 (by decide) ?_
      have hPc := hP.sub (ws' := [(h0, .inr (0, [.int f]))]) [0] rfl
      have hDc := hD.sub (ws' := [(h0, .inr (0, [.int f]))]) [0] (by decide) rfl
      have hKc := hK.sub (tys' := []) [] rfl
      have hFc := va_free (wc := [(h0, .inr (0, [.int f]))]) hD hS hA [0] rfl
      refine va_calli (va_runV (As := [.int (nI 2)]) (rest := []) ⟨hx, hb, hml, hown, hts⟩ (met_holdN l dC dI h0 H.size f 2 (by decide)) (cwV 1 hts (lw_V q56 q57 q58 q1 q59) rfl rfl rfl (by decide +kernel) ⟨Nat.le_of_ble_eq_true rfl, Nat.le_of_ble_eq_true rfl⟩) ⟨fun a U g mk q => by obtain ⟨q0, q1, qP, qK, qD⟩ := q; exact ⟨q0, q1, qP, va_K.moved (u := U) (U := U.calling g mk a) (Vm.Alike.refl U.vm) qK, qD⟩, va_recv hKc hPc (ci := 0) (q0 := 0) rfl rfl, fun U hU hW => ⟨rfl, by rw [hU], by rw [hU]; exact hPc, va_K.moved hW.alike hKc, hDc.weaken (fun _ _ _ _ => trivial)⟩⟩ rfl rfl hl.1 rfl (lv_room (Nat.le_of_ble_eq_true rfl)) dX0_field_280 ⟨Nat.le_of_ble_eq_true rfl, Nat.le_of_ble_eq_true rfl⟩) hS (fun q _ h => hFc q h) hFc (fun r_ u_ t H1 locs ht hvm hw hB hz1 hk1 hS => ?_)
      have hw : r_ = nI 2 ∧ u_ = nI 2 := hw
      obtain ⟨rfl, rfl⟩ := hw
      obtain ⟨hP1, hK1, hD1⟩ := hB
      rw [ht] at hP1
      obtain ⟨hP, hD⟩ := va_join (wr := [(aq, .inl (cA, 256, .inl F)), (bq, .inl (cB, 256, .inl (fun _ => 0)))]) (w1 := [(h0, .inr (0, [.int (nI 2)]))]) hP hD [0] [1, 2] rfl rfl (by decide) (by decide) hk1 hFc hP1 hD1
      generalize H1 = H at hP hS ⊢
      have hP : va_P (dC, dI) vwCl [(h0, .inr (0, [.int (nI 2)])), (aq, .inl (cA, 256, .inl F)), (bq, .inl (cB, 256, .inl (fun _ => 0)))] H := hP.sub [2, 0, 1] rfl
      have hD : va_D A [(h0, .inr (0, [.int (nI 2)])), (aq, .inl (cA, 256, .inl F)), (bq, .inl (cB, 256, .inl (fun _ => 0)))] := hD.sub [2, 0, 1] (by decide) rfl
      refine lv_pop hx hb dX0_field_283 rfl ?_
      refine lv_iconst (v := nI 0) hx hb dX0_field_284 (by decide) ?_
      refine lv_istore (lv' := [(5, .int (nI 0)), (4, .ref bq), (0, .ref h0), (1, .int (nI b)), (2, .int (nI c0)), (3, .ref aq)]) hx hb dX0_field_285 hl (by decide) rfl (fun ls hl => ?_)
      refine gl_hloop (pc := 287) (nL := 7) (fun k lv H locs => ∃ (F2 : Nat → Int32), lv = [(0, .ref h0), (4, .ref bq), (5, .int (nI k))] ∧ va_P (dC, dI) vwCl [(h0, .inr (0, [.int (nI 2)])), (aq, .inl (cA, 256, .inl F)), (bq, .inl (cB, 256, .inl F2))] H ∧ va_D A [(h0, .inr (0, [.int (nI 2)])), (aq, .inl (cA, 256, .inl F)), (bq, .inl (cB, 256, .inl F2))] ∧ va_S A s.heap H locs ∧ (∀ v, v < 256 → (∀ k2, k2 < k → gf_pow 2 k2 ≠ v) → F2 v = nI 0)) 255 ?_ ?_ [(0, .ref h0), (4, .ref bq), (5, .int (nI 0))] (lv_sub hl [2, 1, 0] rfl) ⟨fun _ => 0, rfl, hP, hD, hS, fun _ _ _ => rfl⟩
      · intro k hk ih ls lv H locs hl hI
        obtain ⟨F2, rfl, hP, hD, hS, hF⟩ := hI
        have hz1 := gf_two_ne0 k
        have hz2 := gf_pow_lt 2 k
        refine lv_iload hx hb dX0_field_287 (lv_at hl 2 rfl) ?_
        refine lv_sipush (v := nI 255) hx hb dX0_field_289 (by decide) ?_
        refine lv_icmp_ge (tgt := 339) hx hb dX0_field_292 (by decide) (fun c_292 => ?_) (fun c_292 => ?_)
        · exact absurd c_292 (nI_ge hk (by decide))
        · refine lv_aload_n hx hb dX0_field_295 rfl (lv_at hl 0 rfl) ?_
          refine lv_iload hx hb dX0_field_296 (lv_at hl 2 rfl) ?_
          refine gl_call (W.runV (As := [.int (nI k)]) (rest := []) ⟨hx, hb, hml, hown, hts⟩ (met_bpowerN l dC dI h0 2 k (by decide) (by omega)) (cwV 1 hts (lw_V q64 q65 q66 q1 q67) rfl rfl rfl (by decide +kernel) ⟨Nat.le_of_ble_eq_true rfl, Nat.le_of_ble_eq_true rfl⟩) ⟨fun a U g mk q => ⟨q.1, q.2.1, va_K.moved (u := U) (U := U.calling g mk a) (Vm.Alike.refl U.vm) q.2.2⟩, va_recv hK hP (ci := 0) (q0 := 0) rfl rfl, fun U hU hW => ⟨rfl, by rw [hU]; exact hP.sub [0] rfl, va_K.moved hW.alike (hK.sub (tys' := []) [] rfl)⟩⟩ rfl rfl hl.1 rfl (lv_room (Nat.le_of_ble_eq_true rfl)) dX0_field_298 ⟨Nat.le_of_ble_eq_true rfl, Nat.le_of_ble_eq_true rfl⟩) ?_
          refine lv_istore (lv' := [(6, .int (nI (gf_pow 2 k))), (0, .ref h0), (4, .ref bq), (5, .int (nI k))]) hx hb dX0_field_301 hl (by decide) rfl (fun ls hl => ?_)
          refine lv_iload hx hb dX0_field_303 (lv_at hl 0 rfl) ?_
          refine lv_iconst (v := nI 1) hx hb dX0_field_305 (by decide) ?_
          refine lv_icmp_lt (tgt := 325) hx hb dX0_field_306 (by decide) (fun c_306 => ?_) (fun c_306 => ?_)
          · exact absurd c_306 (nI_nlt (by omega) (by omega))
          · refine lv_iload hx hb dX0_field_309 (lv_at hl 0 rfl) ?_
            refine lv_sipush (v := nI 255) hx hb dX0_field_311 (by decide) ?_
            refine lv_icmp_gt (tgt := 325) hx hb dX0_field_314 (by decide) (fun c_314 => ?_) (fun c_314 => ?_)
            · exact absurd c_314 (nI_nlt (by omega) (by decide))
            · refine lv_aload hx hb dX0_field_317 (lv_at hl 2 rfl) ?_
              refine lv_iload hx hb dX0_field_319 (lv_at hl 0 rfl) ?_
              refine va_zald hx hb hK hP 2 1 rfl rfl (vp_in_nI hz2 (by decide)) dX0_field_321 ?_
              refine gl_to (y := nI 0) (by rw [gl_cl hz2]; exact hF _ hz2 (fun k2 h2 => gf_two_inj h2 hk)) ?_
              refine lv_if_eq (tgt := 327) hx hb dX0_field_322 (by decide) (fun c_322 => ?_) (fun c_322 => ?_)
              · refine lv_aload hx hb dX0_field_327 (lv_at hl 2 rfl) ?_
                refine lv_iload hx hb dX0_field_329 (lv_at hl 0 rfl) ?_
                refine lv_iconst (v := nI 1) hx hb dX0_field_331 (by decide) ?_
                refine va_zast hx hb hK hP hD hS 2 1 rfl rfl (vp_in_nI hz2 (by decide)) dX0_field_332 (fun H locs hP hD hS => ?_)
                obtain ⟨F3, hF3⟩ : ∃ z, z = upd F2 (nI (gf_pow 2 k)).toNatClampNeg (vp_nar .boolean (nI 1)) := ⟨_, rfl⟩
                have hP : va_P (dC, dI) vwCl [(h0, .inr (0, [.int (nI 2)])), (aq, .inl (cA, 256, .inl F)), (bq, .inl (cB, 256, .inl F3))] H := by rw [hF3]; exact hP
                have hD : va_D A [(h0, .inr (0, [.int (nI 2)])), (aq, .inl (cA, 256, .inl F)), (bq, .inl (cB, 256, .inl F3))] := by rw [hF3]; exact hD
                have hF3z : ∀ v, v < 256 → (∀ k2, k2 < k + 1 → gf_pow 2 k2 ≠ v) → F3 v = nI 0 := by
                  intro v hv hno
                  rw [hF3, gl_cl hz2, pk_un (fun h => hno k (Nat.lt_succ_self k) h.symm)]
                  exact hF v hv (fun k2 h2 => hno k2 (Nat.lt_succ_of_lt h2))
                refine lv_iinc (v := nI (k + 1)) (lv' := [(5, .int (nI (k + 1))), (6, .int (nI (gf_pow 2 k))), (0, .ref h0), (4, .ref bq)]) hx hb dX0_field_333 hl (k := 3) rfl (gl_inc k) (by decide) rfl (fun ls hl => ?_)
                refine lv_goto (tgt := 287) hx hb dX0_field_336 (by decide) ?_
                exact ih ls [(0, .ref h0), (4, .ref bq), (5, .int (nI (k + 1)))] H locs (lv_sub hl [2, 3, 0] rfl) ⟨F3, rfl, hP, hD, hS, hF3z⟩
              · exact absurd nI_0 c_322
      · intro ls lv H locs hl hI
        obtain ⟨F2, rfl, hP, hD, hS, -⟩ := hI
        have hl : lv_has ls 7 [(0, .ref h0), (4, .ref bq), (5, .int (nI 255))] := hl
        refine lv_iload hx hb dX0_field_287 (lv_at hl 2 rfl) ?_
        refine lv_sipush (v := nI 255) hx hb dX0_field_289 (by decide) ?_
        refine lv_icmp_ge (tgt := 339) hx hb dX0_field_292 (by decide) (fun c_292 => ?_) (fun c_292 => ?_)
        · refine lv_iconst (v := nI 1) hx hb dX0_field_339 (by decide) ?_
          have hP9 := hP.sub (ws' := [(h0, .inr (0, [.int (nI 2)]))]) [0] rfl
          have hD9 := hD.sub (ws' := [(h0, .inr (0, [.int (nI 2)]))]) [0] (by decide) rfl
          have hK9 := hK.sub (tys' := []) [] rfl
          exact W.zret (v := nI 1) hx hb hr rfl (fun t ht hW => ⟨⟨nI 1, nI 2, rfl, rfl, by rw [ht]; exact hP9, va_K.moved hW.alike hK9, hD9⟩, hS.F ht⟩) hS.2.2 dX0_field_340
        · exact absurd (nI_le (Nat.le_refl 255) (by decide)) c_292
    · exact absurd (nI_le (Nat.le_refl 256) (by decide)) c_14
end
section
/-! the law's roots(x, s) -/
/-- the roots drawn from the script -/
def gl_rt (L : Nat) (xs : Nat → Int32) (n : Nat) : Nat := gl_lo (gl_cell L xs (4 * n + 1))
set_option maxHeartbeats 4000000 in
set_option maxRecDepth 100000 in
/-- roots(x, s): true; an array of 9 and one of 256 are made -/
theorem met_roots (l : Launch) (dC : Nat → ClassId) (dI : Nat → Nat → Nat) (h0 sz : Nat) (f : Int32) (bs L : Nat) (xs : Nat → Int32) (hL : L ≤ 96) (hbs : bs < sz) (hbh : bs ≠ h0) : Met l yX0_roots (ws_ yX0_roots cX0_roots 7 (some .boolean)) ({ frames := 3, cells := 2, slots := 265, locals := 68 } : Room) (va_Pc [.ref h0, .ref bs] (fun U => U.heap.size = sz ∧ va_P (dC, dI) vwCl [(h0, .inr (0, [.int f]))] U.heap ∧ va_K (dC, dI) vwCl [] U ∧ va_D (fun _ => True) [(h0, .inr (0, [.int f]))] ∧ va_X bs L xs U U.heap)) (va_Qi (fun (r _ : Int32) => r = nI 1) (BX1 dC dI (va_A [(h0, .inr (0, [.int f]))] sz) h0) (va_A [(h0, .inr (0, [.int f]))] sz)) 2 265 (va_A [(h0, .inr (0, [.int f]))] sz) := by
  refine Met.ofW (cc := cX0_roots) (maxL := 7) (ret := some .boolean) (by decide) rfl ?_
  intro p e s m args below meth c s₁ B hml hv
  obtain ⟨rfl, hsz, hP, hK, hD0, hX⟩ := hv
  have hx := B.exec
  have hb := B.bytes
  have hr := B.returns
  have hts := atoms_spec (ws := ws_ yX0_roots cX0_roots 7 (some .boolean)) B.pre
  have hts : ∀ w ∈ lw_all, w.before _ s = true := fun w h => hts w (List.mem_cons_of_mem _ h)
  have hown : s.vm.findClass RX0 = some m.cls := findClass_of_methodNamed B.named
  have hlocks := B.notSynchronized
  subst hsz
  have hD := hD0.self (sz := s.heap.size)
  have hbA : ¬ va_A [(h0, .inr (0, [.int f]))] s.heap.size bs := by
    rintro (⟨k, e1, h1⟩ | h1)
    · match k, h1 with
      | 0, h1 => exact hbh (congrArg Prod.fst (Option.some.inj h1)).symm
      | k + 1, h1 => cases h1
    · exact absurd hbs (Nat.not_lt.mpr h1)
  generalize hAe : va_A [(h0, .inr (0, [.int f]))] s.heap.size = A at hD hbA ⊢
  have hA : ∀ q : Nat, s.heap.size ≤ q → A q := fun q h => by rw [← hAe]; exact Or.inr h
  have hS : va_S A s.heap s.heap [] := va_S.rf
  have hbl := hbs
  have hl := lv_entry ([.ref h0, .ref bs]) (n := 7) (Nat.le_of_ble_eq_true rfl)
  rw [lg_entry_eq]
  generalize (lg_sl ([.ref h0, .ref bs]) ++ List.replicate (7 - (lg_sl ([.ref h0, .ref bs])).length) Slot.unset).toArray = ls at hl ⊢
  have hl : lv_has ls 7 [(0, .ref h0), (1, .ref bs)] := hl
  have hrl : ∀ j, gl_rt L xs j < 256 := fun j => gl_lo_lt _
  obtain ⟨r, hr0⟩ : ∃ z, z = gl_rt L xs := ⟨_, rfl⟩
  rw [← hr0] at hrl
  refine lv_bipush (v := nI 9) hx hb dX0_roots_0 (by decide) ?_
  refine va_newa (atype := .int) (a0 := (9, .inl (fun _ => 0))) (N' := 9) hx hb (hts _ q87) rfl hK hP hD hS hA (fun _ => rfl) (nI_pos (by decide)) (nI_clamp (by decide)) (Nat.le_of_ble_eq_true rfl) (Nat.le_of_ble_eq_true rfl) (Nat.le_of_ble_eq_true rfl) dX0_roots_2 (fun aq cA H hK hP hD hS => ?_)
  have hP : va_P (dC, dI) vwCl [(h0, .inr (0, [.int f])), (aq, .inl (cA, 9, .inl (fun _ => 0)))] H := hP
  have hD : va_D A [(h0, .inr (0, [.int f])), (aq, .inl (cA, 9, .inl (fun _ => 0)))] := hD
  have hK : va_K (dC, dI) vwCl [(cA, .int)] s := hK
  refine W.widen (k := 1) (n := 9) (Nat.le_of_ble_eq_true rfl) (Nat.le_of_ble_eq_true rfl) ?_
  refine lv_astore_n (lv' := [(2, .ref aq), (0, .ref h0), (1, .ref bs)]) hx hb dX0_roots_4 rfl hl (by decide) rfl (fun ls hl => ?_)
  refine lv_sipush (v := nI 256) hx hb dX0_roots_5 (by decide) ?_
  refine va_newa (atype := .boolean) (a0 := (256, .inl (fun _ => 0))) (N' := 256) hx hb (hts _ q83) rfl hK hP hD hS hA (fun _ => rfl) (nI_pos (by decide)) (nI_clamp (by decide)) (Nat.le_of_ble_eq_true rfl) (Nat.le_of_ble_eq_true rfl) (Nat.le_of_ble_eq_true rfl) dX0_roots_8 (fun bq cB H hK hP hD hS => ?_)
  have hP : va_P (dC, dI) vwCl [(h0, .inr (0, [.int f])), (aq, .inl (cA, 9, .inl (fun _ => 0))), (bq, .inl (cB, 256, .inl (fun _ => 0)))] H := hP
  have hD : va_D A [(h0, .inr (0, [.int f])), (aq, .inl (cA, 9, .inl (fun _ => 0))), (bq, .inl (cB, 256, .inl (fun _ => 0)))] := hD
  have hK : va_K (dC, dI) vwCl [(cA, .int), (cB, .boolean)] s := hK
  refine W.widen (k := 2) (n := 265) (Nat.le_of_ble_eq_true rfl) (Nat.le_of_ble_eq_true rfl) ?_
  refine lv_astore_n (lv' := [(3, .ref bq), (2, .ref aq), (0, .ref h0), (1, .ref bs)]) hx hb dX0_roots_10 rfl hl (by decide) rfl (fun ls hl => ?_)
  refine lv_aload_n hx hb dX0_roots_11 rfl (lv_at hl 1 rfl) ?_
  refine lv_iconst (v := nI 0) hx hb dX0_roots_12 (by decide) ?_
  refine lv_iconst (v := nI 1) hx hb dX0_roots_13 (by decide) ?_
  refine va_iast hx hb hK hP hD hS 1 0 rfl rfl (vp_in_nI (by decide) (by decide)) dX0_roots_14 (fun H locs hP hD hS => ?_)
  obtain ⟨F0, hF0e⟩ : ∃ z, z = upd (fun _ => 0) (nI 0).toNatClampNeg (nI 1) := ⟨_, rfl⟩
  have hP : va_P (dC, dI) vwCl [(h0, .inr (0, [.int f])), (aq, .inl (cA, 9, .inl F0)), (bq, .inl (cB, 256, .inl (fun _ => 0)))] H := by rw [hF0e]; exact hP
  have hD : va_D A [(h0, .inr (0, [.int f])), (aq, .inl (cA, 9, .inl F0)), (bq, .inl (cB, 256, .inl (fun _ => 0)))] := by rw [hF0e]; exact hD
  have hF0z : ∀ i, i < 9 → F0 i = nI (gf_co r 0 i) := by
    intro i hi
    rw [hF0e, nI_clamp (by decide)]
    show (if i = 0 then nI 1 else 0) = nI (if i = 0 then 1 else 0)
    by_cases h : i = 0
    · rw [if_pos h, if_pos h]
    · rw [if_neg h, if_neg h]; exact nI_0.symm
  refine lv_iconst (v := nI 0) hx hb dX0_roots_15 (by decide) ?_
  refine lv_istore (lv' := [(4, .int (nI 0)), (3, .ref bq), (2, .ref aq), (0, .ref h0), (1, .ref bs)]) hx hb dX0_roots_16 hl (by decide) rfl (fun ls hl => ?_)
  refine gl_hloop (pc := 18) (nL := 7) (fun n lv H locs => ∃ (F G : Nat → Int32), lv = [(0, .ref h0), (1, .ref bs), (2, .ref aq), (3, .ref bq), (4, .int (nI n))] ∧ va_P (dC, dI) vwCl [(h0, .inr (0, [.int f])), (aq, .inl (cA, 9, .inl F)), (bq, .inl (cB, 256, .inl G))] H ∧ va_D A [(h0, .inr (0, [.int f])), (aq, .inl (cA, 9, .inl F)), (bq, .inl (cB, 256, .inl G))] ∧ va_S A s.heap H locs ∧ (∀ i, i < 9 → F i = nI (gf_co r n i)) ∧ (∀ j, j < n → G (r j) = nI 1) ∧ (∀ v, v < 256 → (∀ j, j < n → r j ≠ v) → G v = nI 0)) 8 ?_ ?_ [(0, .ref h0), (1, .ref bs), (2, .ref aq), (3, .ref bq), (4, .int (nI 0))] (lv_sub hl [3, 4, 2, 1, 0] rfl) ⟨F0, fun _ => 0, rfl, hP, hD, hS, hF0z, fun j hj => absurd hj (Nat.not_lt_zero _), fun _ _ _ => rfl⟩
  · intro n hn ih ls lv H locs hl hI
    obtain ⟨F, G, rfl, hP, hD, hS, hF, hG1, hG0⟩ := hI
    refine lv_iload hx hb dX0_roots_18 (lv_at hl 4 rfl) ?_
    refine lv_bipush (v := nI 8) hx hb dX0_roots_20 (by decide) ?_
    refine lv_icmp_ge (tgt := 99) hx hb dX0_roots_22 (by decide) (fun c_22 => ?_) (fun c_22 => ?_)
    · exact absurd c_22 (nI_ge hn (by decide))
    · refine lv_aload_n hx hb dX0_roots_25 rfl (lv_at hl 1 rfl) ?_
      refine lv_iconst (v := nI 4) hx hb dX0_roots_26 (by decide) ?_
      refine lv_iload hx hb dX0_roots_27 (lv_at hl 4 rfl) ?_
      refine lv_imul hx hb dX0_roots_29 ?_
      refine gl_to (y := nI (4 * n)) (pk_mul 4 n) ?_
      refine lv_iconst (v := nI 1) hx hb dX0_roots_30 (by decide) ?_
      refine lv_iadd hx hb dX0_roots_31 ?_
      refine gl_to (y := nI (4 * n + 1)) (nI_add _ _) ?_
      refine gl_call (W.runS (As := [.ref bs, .int (nI (4 * n + 1))]) (rest := []) ⟨hx, hb, hml, hown, hts⟩ (met_cell l bs L xs hL (4 * n + 1) (by omega)) (va_cwS 2 hts (lw_S q68 q69 q0 q70) rfl rfl rfl (by decide +kernel) ⟨Nat.le_of_ble_eq_true rfl, Nat.le_of_ble_eq_true rfl⟩) ⟨fun a U g mk q => ⟨q.1, va_X.moved (u := U) (U := U.calling g mk a) (Vm.Alike.refl U.vm) q.2⟩, fun U hU hW => ⟨rfl, by show va_X bs L xs U U.heap; rw [hU]; exact va_X.moved hW.alike (hX.kept (hS.2.1 _ hbl hbA))⟩⟩ rfl rfl hl.1 rfl (lv_room (Nat.le_of_ble_eq_true rfl)) dX0_roots_32 ⟨Nat.le_of_ble_eq_true rfl, Nat.le_of_ble_eq_true rfl⟩) ?_
      refine lv_sipush (v := nI 255) hx hb dX0_roots_35 (by decide) ?_
      refine lv_iand hx hb dX0_roots_38 ?_
      refine gl_to (y := nI (r n)) (by rw [hr0]; exact gl_and _) ?_
      refine lv_istore (lv' := [(5, .int (nI (r n))), (0, .ref h0), (1, .ref bs), (2, .ref aq), (3, .ref bq), (4, .int (nI n))]) hx hb dX0_roots_39 hl (by decide) rfl (fun ls hl => ?_)
      refine lv_aload_n hx hb dX0_roots_41 rfl (lv_at hl 4 rfl) ?_
      refine lv_iload hx hb dX0_roots_42 (lv_at hl 0 rfl) ?_
      refine lv_iconst (v := nI 1) hx hb dX0_roots_44 (by decide) ?_
      have hrn := hrl n
      refine va_zast hx hb hK hP hD hS 2 1 rfl rfl (vp_in_nI hrn (by decide)) dX0_roots_45 (fun H locs hP hD hS => ?_)
      obtain ⟨G1, hG1e⟩ : ∃ z, z = upd G (nI (r n)).toNatClampNeg (vp_nar .boolean (nI 1)) := ⟨_, rfl⟩
      have hP : va_P (dC, dI) vwCl [(h0, .inr (0, [.int f])), (aq, .inl (cA, 9, .inl F)), (bq, .inl (cB, 256, .inl G1))] H := by rw [hG1e]; exact hP
      have hD : va_D A [(h0, .inr (0, [.int f])), (aq, .inl (cA, 9, .inl F)), (bq, .inl (cB, 256, .inl G1))] := by rw [hG1e]; exact hD
      have hG1a : ∀ j, j < n + 1 → G1 (r j) = nI 1 := by
        intro j hj
        rw [hG1e, gl_cl hrn]
        by_cases h : r j = r n
        · rw [h, pk_us]; rfl
        · rw [pk_un h]; exact hG1 j (by rcases Nat.lt_or_ge j n with z | z; exact z; exact absurd (by rw [show j = n by omega]) h)
      have hG0a : ∀ v, v < 256 → (∀ j, j < n + 1 → r j ≠ v) → G1 v = nI 0 := by
        intro v hv hno
        rw [hG1e, gl_cl hrn, pk_un (fun h => hno n (Nat.lt_succ_self n) h.symm)]
        exact hG0 v hv (fun j hj => hno j (Nat.lt_succ_of_lt hj))
      refine lv_iload hx hb dX0_roots_46 (lv_at hl 5 rfl) ?_
      refine lv_iconst (v := nI 1) hx hb dX0_roots_48 (by decide) ?_
      refine lv_iadd hx hb dX0_roots_49 ?_
      refine gl_to (y := nI (n + 1)) (nI_add _ _) ?_
      refine gl_to (y := nI (n + 2 - 0) + Int32.ofInt (-1)) (gl_dec (n + 1)).symm ?_
      refine lv_istore (lv' := [(6, .int (nI (n + 2 - 0) + Int32.ofInt (-1))), (5, .int (nI (r n))), (0, .ref h0), (1, .ref bs), (2, .ref aq), (3, .ref bq), (4, .int (nI n))]) hx hb dX0_roots_50 hl (by decide) rfl (fun ls hl => ?_)
      have hFj0 : ∀ i, i < 9 → F i = nI (if n + 2 - 0 ≤ i then gf_co r (n + 1) i else gf_co r n i) := by
        intro i hi
        rw [hF i hi]
        by_cases h : n + 2 - 0 ≤ i
        · rw [if_pos h, gf_co_0 r (n + 1) i (by omega), gf_co_0 r n i (by omega)]
        · rw [if_neg h]
      refine gl_hloop (pc := 52) (nL := 7) (fun j lv H locs => ∃ (F : Nat → Int32), lv = [(0, .ref h0), (1, .ref bs), (2, .ref aq), (3, .ref bq), (4, .int (nI n)), (5, .int (nI (r n))), (6, .int (nI (n + 2 - j) + Int32.ofInt (-1)))] ∧ va_P (dC, dI) vwCl [(h0, .inr (0, [.int f])), (aq, .inl (cA, 9, .inl F)), (bq, .inl (cB, 256, .inl G1))] H ∧ va_D A [(h0, .inr (0, [.int f])), (aq, .inl (cA, 9, .inl F)), (bq, .inl (cB, 256, .inl G1))] ∧ va_S A s.heap H locs ∧ (∀ i, i < 9 → F i = nI (if n + 2 - j ≤ i then gf_co r (n + 1) i else gf_co r n i))) (n + 2) ?_ ?_ [(0, .ref h0), (1, .ref bs), (2, .ref aq), (3, .ref bq), (4, .int (nI n)), (5, .int (nI (r n))), (6, .int (nI (n + 2 - 0) + Int32.ofInt (-1)))] (lv_sub hl [2, 3, 4, 5, 6, 1, 0] rfl) ⟨F, rfl, hP, hD, hS, hFj0⟩
      · intro j hj ih2 ls lv H locs hl hI
        obtain ⟨F, rfl, hP, hD, hS, hF⟩ := hI
        obtain ⟨i, hi⟩ : ∃ i, n + 2 - j = i + 1 := ⟨n + 1 - j, by omega⟩
        have hi9 : i < 9 := by omega
        have hloc : nI (n + 2 - j) + Int32.ofInt (-1) = nI i := by rw [hi]; exact gl_dec i
        rw [hloc] at hl
        refine lv_iload hx hb dX0_roots_52 (lv_at hl 6 rfl) ?_
        refine lv_if_lt (tgt := 93) hx hb dX0_roots_54 (by decide) (fun c_54 => ?_) (fun c_54 => ?_)
        · exact absurd c_54 (nI_pos (by omega))
        · refine lv_aload_n hx hb dX0_roots_57 rfl (lv_at hl 2 rfl) ?_
          refine lv_iload hx hb dX0_roots_58 (lv_at hl 6 rfl) ?_
          refine lv_iload hx hb dX0_roots_60 (lv_at hl 6 rfl) ?_
          refine gl_meet (nL := 7) 75 [(0, .ref h0), (1, .ref bs), (2, .ref aq), (3, .ref bq), (4, .int (nI n)), (5, .int (nI (r n))), (6, .int (nI i))] [.int (nI (if 0 < i then gf_co r n (i - 1) else 0)), .int (nI i), .ref aq] ?_ (fun h75 => ?_)
          · intro ls hl
            refine lv_aload_n hx hb dX0_roots_75 rfl (lv_at hl 0 rfl) ?_
            refine lv_iload hx hb dX0_roots_76 (lv_at hl 5 rfl) ?_
            refine lv_aload_n hx hb dX0_roots_78 rfl (lv_at hl 2 rfl) ?_
            refine lv_iload hx hb dX0_roots_79 (lv_at hl 6 rfl) ?_
            refine va_iald hx hb hK hP 1 0 rfl rfl (vp_in_nI hi9 (by decide)) dX0_roots_81 ?_
            refine gl_to (y := nI (gf_co r n i)) (by rw [nI_clamp (by omega), hF i hi9, if_neg (by omega)]) ?_
            refine gl_call (W.runV (As := [.int (nI (r n)), .int (nI (gf_co r n i))]) (rest := [.int (nI (if 0 < i then gf_co r n (i - 1) else 0)), .int (nI i), .ref aq]) ⟨hx, hb, hml, hown, hts⟩ (met_timesN l h0 (r n) (gf_co r n i) hrn (gf_co_lt r n i)) (cwV 2 hts (lw_V q15 q16 q17 q1 q18) rfl rfl rfl (by decide +kernel) ⟨Nat.le_of_ble_eq_true rfl, Nat.le_of_ble_eq_true rfl⟩) ⟨fun _ _ _ _ q => q, va_recv hK hP (ci := 0) (q0 := 0) rfl rfl, fun _ _ _ => rfl⟩ rfl rfl hl.1 rfl (lv_room (Nat.le_of_ble_eq_true rfl)) dX0_roots_82 ⟨Nat.le_of_ble_eq_true rfl, Nat.le_of_ble_eq_true rfl⟩) ?_
            refine lv_ixor hx hb dX0_roots_85 ?_
            refine gl_to (y := nI (gf_co r (n + 1) i)) (nx_xor _ _) ?_
            refine va_iast hx hb hK hP hD hS 1 0 rfl rfl (vp_in_nI hi9 (by decide)) dX0_roots_86 (fun H locs hP hD hS => ?_)
            obtain ⟨F1, hF1e⟩ : ∃ z, z = upd F (nI i).toNatClampNeg (nI (gf_co r (n + 1) i)) := ⟨_, rfl⟩
            have hP : va_P (dC, dI) vwCl [(h0, .inr (0, [.int f])), (aq, .inl (cA, 9, .inl F1)), (bq, .inl (cB, 256, .inl G1))] H := by rw [hF1e]; exact hP
            have hD : va_D A [(h0, .inr (0, [.int f])), (aq, .inl (cA, 9, .inl F1)), (bq, .inl (cB, 256, .inl G1))] := by rw [hF1e]; exact hD
            have hFj1 : ∀ a, a < 9 → F1 a = nI (if n + 2 - (j + 1) ≤ a then gf_co r (n + 1) a else gf_co r n a) := by
              intro a ha
              rw [hF1e, nI_clamp (by omega)]
              by_cases h : a = i
              · rw [h, pk_us, if_pos (by omega)]
              · rw [pk_un h, hF a ha]
                by_cases h2 : n + 2 - j ≤ a
                · rw [if_pos h2, if_pos (by omega)]
                · rw [if_neg h2, if_neg (by omega)]
            refine lv_iinc (v := nI (n + 2 - (j + 1)) + Int32.ofInt (-1)) (lv' := [(6, .int (nI (n + 2 - (j + 1)) + Int32.ofInt (-1))), (0, .ref h0), (1, .ref bs), (2, .ref aq), (3, .ref bq), (4, .int (nI n)), (5, .int (nI (r n)))]) hx hb dX0_roots_87 hl (k := 6) rfl (by rw [show n + 2 - (j + 1) = i by omega]) (by decide) rfl (fun ls hl => ?_)
            refine lv_goto (tgt := 52) hx hb dX0_roots_90 (by decide) ?_
            exact ih2 ls [(0, .ref h0), (1, .ref bs), (2, .ref aq), (3, .ref bq), (4, .int (nI n)), (5, .int (nI (r n))), (6, .int (nI (n + 2 - (j + 1)) + Int32.ofInt (-1)))] H locs (lv_sub hl [1, 2, 3, 4, 5, 6, 0] rfl) ⟨F1, rfl, hP, hD, hS, hFj1⟩
          · refine lv_if_le (tgt := 74) hx hb dX0_roots_62 (by decide) (fun c_62 => ?_) (fun c_62 => ?_)
            · have hi0 : ¬ 0 < i := by
                intro h
                exact nI_nle h (by omega) c_62
              refine lv_iconst (v := nI 0) hx hb dX0_roots_74 (by decide) ?_
              refine gl_to (y := nI (if 0 < i then gf_co r n (i - 1) else 0)) (by rw [if_neg hi0]) ?_
              exact h75 ls (lv_sub hl [0, 1, 2, 3, 4, 5, 6] rfl)
            · have hi0 : 0 < i := by
                rcases Nat.eq_zero_or_pos i with h | h
                · exact absurd (by rw [h]; decide) c_62
                · exact h
              refine lv_aload_n hx hb dX0_roots_65 rfl (lv_at hl 2 rfl) ?_
              refine lv_iload hx hb dX0_roots_66 (lv_at hl 6 rfl) ?_
              refine lv_iconst (v := nI 1) hx hb dX0_roots_68 (by decide) ?_
              refine lv_isub hx hb dX0_roots_69 ?_
              refine gl_to (y := nI (i - 1)) (gl_sub (by omega)) ?_
              refine va_iald hx hb hK hP 1 0 rfl rfl (vp_in_nI (show i - 1 < 9 by omega) (by decide)) dX0_roots_70 ?_
              refine gl_to (y := nI (if 0 < i then gf_co r n (i - 1) else 0)) (by rw [nI_clamp (by omega), hF (i - 1) (by omega), if_neg (by omega), if_pos hi0]) ?_
              refine lv_goto (tgt := 75) hx hb dX0_roots_71 (by decide) ?_
              exact h75 ls (lv_sub hl [0, 1, 2, 3, 4, 5, 6] rfl)
      · intro ls lv H locs hl hI
        obtain ⟨F, rfl, hP, hD, hS, hF⟩ := hI
        have hneg : nI (n + 2 - (n + 2)) + Int32.ofInt (-1) < 0 := by rw [Nat.sub_self]; decide
        refine lv_iload hx hb dX0_roots_52 (lv_at hl 6 rfl) ?_
        refine lv_if_lt (tgt := 93) hx hb dX0_roots_54 (by decide) (fun c_54 => ?_) (fun c_54 => ?_)
        · refine lv_iinc (v := nI (n + 1)) (lv' := [(4, .int (nI (n + 1))), (0, .ref h0), (1, .ref bs), (2, .ref aq), (3, .ref bq), (5, .int (nI (r n))), (6, .int (nI (n + 2 - (n + 2)) + Int32.ofInt (-1)))]) hx hb dX0_roots_93 hl (k := 4) rfl (gl_inc n) (by decide) rfl (fun ls hl => ?_)
          refine lv_goto (tgt := 18) hx hb dX0_roots_96 (by decide) ?_
          exact ih ls [(0, .ref h0), (1, .ref bs), (2, .ref aq), (3, .ref bq), (4, .int (nI (n + 1)))] H locs (lv_sub hl [1, 2, 3, 4, 0] rfl) ⟨F, G1, rfl, hP, hD, hS, fun i hi => by rw [hF i hi, if_pos (by omega)], hG1a, hG0a⟩
        · exact absurd hneg c_54
  · intro ls lv H locs hl hI
    obtain ⟨F, G, rfl, hP, hD, hS, hF, hG1, hG0⟩ := hI
    have hl : lv_has ls 7 [(0, .ref h0), (1, .ref bs), (2, .ref aq), (3, .ref bq), (4, .int (nI 8))] := hl
    have h88 := gf_co_1 r 8
    refine lv_iload hx hb dX0_roots_18 (lv_at hl 4 rfl) ?_
    refine lv_bipush (v := nI 8) hx hb dX0_roots_20 (by decide) ?_
    refine lv_icmp_ge (tgt := 99) hx hb dX0_roots_22 (by decide) (fun c_22 => ?_) (fun c_22 => ?_)
    · refine lv_iconst (v := nI 0) hx hb dX0_roots_99 (by decide) ?_
      refine lv_istore (lv' := [(4, .int (nI 0)), (0, .ref h0), (1, .ref bs), (2, .ref aq), (3, .ref bq)]) hx hb dX0_roots_100 hl (by decide) rfl (fun ls hl => ?_)
      refine gl_hloop (pc := 102) (nL := 7) (fun v lv H locs => ∃ (f : Int32), lv = [(0, .ref h0), (2, .ref aq), (3, .ref bq), (4, .int (nI v))] ∧ va_P (dC, dI) vwCl [(h0, .inr (0, [.int f])), (aq, .inl (cA, 9, .inl F)), (bq, .inl (cB, 256, .inl G))] H ∧ va_D A [(h0, .inr (0, [.int f])), (aq, .inl (cA, 9, .inl F)), (bq, .inl (cB, 256, .inl G))] ∧ va_S A s.heap H locs) 256 ?_ ?_ [(0, .ref h0), (2, .ref aq), (3, .ref bq), (4, .int (nI 0))] (lv_sub hl [1, 3, 4, 0] rfl) ⟨f, rfl, hP, hD, hS⟩
      · intro v hv ih ls lv H locs hl hI
        obtain ⟨f, rfl, hP, hD, hS⟩ := hI
        have hco : ∀ i, i < 9 → gf_co r 8 i < 256 := fun i _ => gf_co_lt r 8 i
        refine lv_iload hx hb dX0_roots_102 (lv_at hl 3 rfl) ?_
        refine lv_sipush (v := nI 256) hx hb dX0_roots_104 (by decide) ?_
        refine lv_icmp_ge (tgt := 180) hx hb dX0_roots_107 (by decide) (fun c_107 => ?_) (fun c_107 => ?_)
        · exact absurd c_107 (nI_ge hv (by decide))
        · refine lv_aload_n hx hb dX0_roots_110 rfl (lv_at hl 0 rfl) ?_
          refine lv_aload_n hx hb dX0_roots_111 rfl (lv_at hl 1 rfl) ?_
          refine lv_bipush (v := nI 8) hx hb dX0_roots_112 (by decide) ?_
          refine va_iald hx hb hK hP 1 0 rfl rfl (vp_in_nI (show 8 < 9 by decide) (by decide)) dX0_roots_114 ?_
          refine gl_to (y := nI (gf_co r 8 8)) (by rw [nI_clamp (by omega), hF _ (by decide)]) ?_
          have hPc := hP.sub (ws' := [(h0, .inr (0, [.int f]))]) [0] rfl
          have hDc := hD.sub (ws' := [(h0, .inr (0, [.int f]))]) [0] (by decide) rfl
          have hKc := hK.sub (tys' := []) [] rfl
          have hFc := va_free (wc := [(h0, .inr (0, [.int f]))]) hD hS hA [0] rfl
          refine va_calli (va_runV (As := [.int (nI (gf_co r 8 8))]) (rest := []) ⟨hx, hb, hml, hown, hts⟩ (met_holdN l dC dI h0 H.size f (gf_co r 8 8) (gf_co_lt r 8 8)) (cwV 1 hts (lw_V q56 q57 q58 q1 q59) rfl rfl rfl (by decide +kernel) ⟨Nat.le_of_ble_eq_true rfl, Nat.le_of_ble_eq_true rfl⟩) ⟨fun a U g mk q => by obtain ⟨q0, q1, qP, qK, qD⟩ := q; exact ⟨q0, q1, qP, va_K.moved (u := U) (U := U.calling g mk a) (Vm.Alike.refl U.vm) qK, qD⟩, va_recv hKc hPc (ci := 0) (q0 := 0) rfl rfl, fun U hU hW => ⟨rfl, by rw [hU], by rw [hU]; exact hPc, va_K.moved hW.alike hKc, hDc.weaken (fun _ _ _ _ => trivial)⟩⟩ rfl rfl hl.1 rfl (lv_room (Nat.le_of_ble_eq_true rfl)) dX0_roots_115 ⟨Nat.le_of_ble_eq_true rfl, Nat.le_of_ble_eq_true rfl⟩) hS (fun q _ h => hFc q h) hFc (fun r_ u_ t H1 locs ht hvm hw hB hz1 hk1 hS => ?_)
          have hw : r_ = nI (gf_co r 8 8) ∧ u_ = nI (gf_co r 8 8) := hw
          obtain ⟨rfl, rfl⟩ := hw
          obtain ⟨hP1, hK1, hD1⟩ := hB
          rw [ht] at hP1
          obtain ⟨hP, hD⟩ := va_join (wr := [(aq, .inl (cA, 9, .inl F)), (bq, .inl (cB, 256, .inl G))]) (w1 := [(h0, .inr (0, [.int (nI (gf_co r 8 8))]))]) hP hD [0] [1, 2] rfl rfl (by decide) (by decide) hk1 hFc hP1 hD1
          generalize H1 = H at hP hS ⊢
          have hP : va_P (dC, dI) vwCl [(h0, .inr (0, [.int (nI (gf_co r 8 8))])), (aq, .inl (cA, 9, .inl F)), (bq, .inl (cB, 256, .inl G))] H := hP.sub [2, 0, 1] rfl
          have hD : va_D A [(h0, .inr (0, [.int (nI (gf_co r 8 8))])), (aq, .inl (cA, 9, .inl F)), (bq, .inl (cB, 256, .inl G))] := hD.sub [2, 0, 1] (by decide) rfl
          refine lv_istore (lv' := [(5, .int (nI (gf_co r 8 8))), (0, .ref h0), (2, .ref aq), (3, .ref bq), (4, .int (nI v))]) hx hb dX0_roots_118 hl (by decide) rfl (fun ls hl => ?_)
          refine lv_bipush (v := nI 7) hx hb dX0_roots_120 (by decide) ?_
          refine gl_to (y := nI (8 - 0) + Int32.ofInt (-1)) (gl_dec 7).symm ?_
          refine lv_istore (lv' := [(6, .int (nI (8 - 0) + Int32.ofInt (-1))), (5, .int (nI (gf_co r 8 8))), (0, .ref h0), (2, .ref aq), (3, .ref bq), (4, .int (nI v))]) hx hb dX0_roots_122 hl (by decide) rfl (fun ls hl => ?_)
          refine gl_hloop (pc := 124) (nL := 7) (fun k lv H locs => lv = [(0, .ref h0), (2, .ref aq), (3, .ref bq), (4, .int (nI v)), (5, .int (nI (gf_hn (gf_co r 8) v k))), (6, .int (nI (8 - k) + Int32.ofInt (-1)))] ∧ va_P (dC, dI) vwCl [(h0, .inr (0, [.int (nI (gf_hn (gf_co r 8) v k))])), (aq, .inl (cA, 9, .inl F)), (bq, .inl (cB, 256, .inl G))] H ∧ va_D A [(h0, .inr (0, [.int (nI (gf_hn (gf_co r 8) v k))])), (aq, .inl (cA, 9, .inl F)), (bq, .inl (cB, 256, .inl G))] ∧ va_S A s.heap H locs) 8 ?_ ?_ [(0, .ref h0), (2, .ref aq), (3, .ref bq), (4, .int (nI v)), (5, .int (nI (gf_hn (gf_co r 8) v 0))), (6, .int (nI (8 - 0) + Int32.ofInt (-1)))] (lv_sub hl [2, 3, 4, 5, 1, 0] rfl) ⟨rfl, hP, hD, hS⟩
          · intro k hk ih2 ls lv H locs hl hI
            obtain ⟨rfl, hP, hD, hS⟩ := hI
            have hloc : nI (8 - k) + Int32.ofInt (-1) = nI (7 - k) := by rw [show 8 - k = 7 - k + 1 by omega]; exact gl_dec _
            have hk7 : 7 - k < 9 := by omega
            have hhl := gf_hn_lt hco v k
            rw [hloc] at hl
            refine lv_iload hx hb dX0_roots_124 (lv_at hl 5 rfl) ?_
            refine lv_if_lt (tgt := 147) hx hb dX0_roots_126 (by decide) (fun c_126 => ?_) (fun c_126 => ?_)
            · exact absurd c_126 (nI_pos (by omega))
            · refine lv_aload_n hx hb dX0_roots_129 rfl (lv_at hl 0 rfl) ?_
              refine lv_iload hx hb dX0_roots_130 (lv_at hl 3 rfl) ?_
              refine lv_aload_n hx hb dX0_roots_132 rfl (lv_at hl 1 rfl) ?_
              refine lv_iload hx hb dX0_roots_133 (lv_at hl 5 rfl) ?_
              refine va_iald hx hb hK hP 1 0 rfl rfl (vp_in_nI hk7 (by decide)) dX0_roots_135 ?_
              refine gl_to (y := nI (gf_co r 8 (7 - k))) (by rw [nI_clamp (by omega), hF _ hk7]) ?_
              have hPc := hP.sub (ws' := [(h0, .inr (0, [.int (nI (gf_hn (gf_co r 8) v k))]))]) [0] rfl
              have hDc := hD.sub (ws' := [(h0, .inr (0, [.int (nI (gf_hn (gf_co r 8) v k))]))]) [0] (by decide) rfl
              have hKc := hK.sub (tys' := []) [] rfl
              have hFc := va_free (wc := [(h0, .inr (0, [.int (nI (gf_hn (gf_co r 8) v k))]))]) hD hS hA [0] rfl
              refine va_calli (va_runV (As := [.int (nI v), .int (nI (gf_co r 8 (7 - k)))]) (rest := []) ⟨hx, hb, hml, hown, hts⟩ (met_foldN l dC dI h0 H.size (nI (gf_hn (gf_co r 8) v k)) (gf_hn (gf_co r 8) v k) rfl hhl v (gf_co r 8 (7 - k)) hv (gf_co_lt r 8 _)) (cwV 2 hts (lw_V q60 q61 q62 q1 q63) rfl rfl rfl (by decide +kernel) ⟨Nat.le_of_ble_eq_true rfl, Nat.le_of_ble_eq_true rfl⟩) ⟨fun a U g mk q => by obtain ⟨q0, q1, qP, qK, qD⟩ := q; exact ⟨q0, q1, qP, va_K.moved (u := U) (U := U.calling g mk a) (Vm.Alike.refl U.vm) qK, qD⟩, va_recv hKc hPc (ci := 0) (q0 := 0) rfl rfl, fun U hU hW => ⟨rfl, by rw [hU], by rw [hU]; exact hPc, va_K.moved hW.alike hKc, hDc.weaken (fun _ _ _ _ => trivial)⟩⟩ rfl rfl hl.1 rfl (lv_room (Nat.le_of_ble_eq_true rfl)) dX0_roots_136 ⟨Nat.le_of_ble_eq_true rfl, Nat.le_of_ble_eq_true rfl⟩) hS (fun q _ h => hFc q h) hFc (fun r_ u_ t H1 locs ht hvm hw hB hz1 hk1 hS => ?_)
              have hw : r_ = nI (gf_mul (gf_hn (gf_co r 8) v k) v ^^^ gf_co r 8 (7 - k)) ∧ u_ = nI (gf_mul (gf_hn (gf_co r 8) v k) v ^^^ gf_co r 8 (7 - k)) := hw
              obtain ⟨rfl, rfl⟩ := hw
              obtain ⟨hP1, hK1, hD1⟩ := hB
              rw [ht] at hP1
              obtain ⟨hP, hD⟩ := va_join (wr := [(aq, .inl (cA, 9, .inl F)), (bq, .inl (cB, 256, .inl G))]) (w1 := [(h0, .inr (0, [.int (nI (gf_mul (gf_hn (gf_co r 8) v k) v ^^^ gf_co r 8 (7 - k)))]))]) hP hD [0] [1, 2] rfl rfl (by decide) (by decide) hk1 hFc hP1 hD1
              generalize H1 = H at hP hS ⊢
              have hP : va_P (dC, dI) vwCl [(h0, .inr (0, [.int (nI (gf_mul (gf_hn (gf_co r 8) v k) v ^^^ gf_co r 8 (7 - k)))])), (aq, .inl (cA, 9, .inl F)), (bq, .inl (cB, 256, .inl G))] H := hP.sub [2, 0, 1] rfl
              have hD : va_D A [(h0, .inr (0, [.int (nI (gf_mul (gf_hn (gf_co r 8) v k) v ^^^ gf_co r 8 (7 - k)))])), (aq, .inl (cA, 9, .inl F)), (bq, .inl (cB, 256, .inl G))] := hD.sub [2, 0, 1] (by decide) rfl
              refine gl_to (y := nI (gf_hn (gf_co r 8) v (k + 1))) rfl ?_
              have hP : va_P (dC, dI) vwCl [(h0, .inr (0, [.int (nI (gf_hn (gf_co r 8) v (k + 1)))])), (aq, .inl (cA, 9, .inl F)), (bq, .inl (cB, 256, .inl G))] H := hP
              have hD : va_D A [(h0, .inr (0, [.int (nI (gf_hn (gf_co r 8) v (k + 1)))])), (aq, .inl (cA, 9, .inl F)), (bq, .inl (cB, 256, .inl G))] := hD
              refine lv_istore (lv' := [(5, .int (nI (gf_hn (gf_co r 8) v (k + 1)))), (0, .ref h0), (2, .ref aq), (3, .ref bq), (4, .int (nI v)), (6, .int (nI (7 - k)))]) hx hb dX0_roots_139 hl (by decide) rfl (fun ls hl => ?_)
              refine lv_iinc (v := nI (8 - (k + 1)) + Int32.ofInt (-1)) (lv' := [(6, .int (nI (8 - (k + 1)) + Int32.ofInt (-1))), (5, .int (nI (gf_hn (gf_co r 8) v (k + 1)))), (0, .ref h0), (2, .ref aq), (3, .ref bq), (4, .int (nI v))]) hx hb dX0_roots_141 hl (k := 5) rfl (by rw [show 8 - (k + 1) = 7 - k by omega]) (by decide) rfl (fun ls hl => ?_)
              refine lv_goto (tgt := 124) hx hb dX0_roots_144 (by decide) ?_
              exact ih2 ls [(0, .ref h0), (2, .ref aq), (3, .ref bq), (4, .int (nI v)), (5, .int (nI (gf_hn (gf_co r 8) v (k + 1)))), (6, .int (nI (8 - (k + 1)) + Int32.ofInt (-1)))] H locs (lv_sub hl [2, 3, 4, 5, 1, 0] rfl) ⟨rfl, hP, hD, hS⟩
          · intro ls lv H locs hl hI
            obtain ⟨rfl, hP, hD, hS⟩ := hI
            have hneg : nI (8 - 8) + Int32.ofInt (-1) < 0 := by decide
            have hroot := gf_root (r := r) hrl hv 8 (Nat.le_refl 8)
            have hhl := gf_hn_lt hco v 8
            refine lv_iload hx hb dX0_roots_124 (lv_at hl 5 rfl) ?_
            refine lv_if_lt (tgt := 147) hx hb dX0_roots_126 (by decide) (fun c_126 => ?_) (fun c_126 => ?_)
            · refine lv_aload_n hx hb dX0_roots_147 rfl (lv_at hl 1 rfl) ?_
              refine lv_bipush (v := nI 8) hx hb dX0_roots_148 (by decide) ?_
              refine va_iald hx hb hK hP 1 0 rfl rfl (vp_in_nI (show 8 < 9 by decide) (by decide)) dX0_roots_150 ?_
              refine gl_to (y := nI (gf_co r 8 8)) (by rw [nI_clamp (by omega), hF _ (by decide)]) ?_
              refine lv_iconst (v := nI 1) hx hb dX0_roots_151 (by decide) ?_
              refine lv_icmp_ne (tgt := 172) hx hb dX0_roots_152 (by decide) (fun c_152 => ?_) (fun c_152 => ?_)
              · exact absurd (by rw [h88]) c_152
              · refine lv_iload hx hb dX0_roots_155 (lv_at hl 4 rfl) ?_
                refine lv_if_ne (tgt := 164) hx hb dX0_roots_157 (by decide) (fun c_157 => ?_) (fun c_157 => ?_)
                · have hy : gf_hn (gf_co r 8) v 8 ≠ 0 := fun h => c_157 (by rw [h]; exact nI_0)
                  have hGv : G v = nI 0 := hG0 v hv (fun j hj h => hy (hroot.mpr ⟨j, hj, h⟩))
                  refine lv_iconst (v := nI 0) hx hb dX0_roots_164 (by decide) ?_
                  refine lv_aload_n hx hb dX0_roots_165 rfl (lv_at hl 2 rfl) ?_
                  refine lv_iload hx hb dX0_roots_166 (lv_at hl 3 rfl) ?_
                  refine va_zald hx hb hK hP 2 1 rfl rfl (vp_in_nI hv (by decide)) dX0_roots_168 ?_
                  refine gl_to (y := nI 0) (by rw [gl_cl hv]; exact hGv) ?_
                  refine lv_icmp_eq (tgt := 174) hx hb dX0_roots_169 (by decide) (fun c_169 => ?_) (fun c_169 => ?_)
                  · refine lv_iinc (v := nI (v + 1)) (lv' := [(4, .int (nI (v + 1))), (0, .ref h0), (2, .ref aq), (3, .ref bq), (5, .int (nI (gf_hn (gf_co r 8) v 8))), (6, .int (nI (8 - 8) + Int32.ofInt (-1)))]) hx hb dX0_roots_174 hl (k := 3) rfl (gl_inc v) (by decide) rfl (fun ls hl => ?_)
                    refine lv_goto (tgt := 102) hx hb dX0_roots_177 (by decide) ?_
                    exact ih ls [(0, .ref h0), (2, .ref aq), (3, .ref bq), (4, .int (nI (v + 1)))] H locs (lv_sub hl [1, 2, 3, 0] rfl) ⟨_, rfl, hP, hD, hS⟩
                  · exact absurd rfl c_169
                · have hy : gf_hn (gf_co r 8) v 8 = 0 := (gl_eq hhl (by decide)).mp (c_157.trans nI_0.symm)
                  obtain ⟨j, hj, hjv⟩ := hroot.mp hy
                  have hGv : G v = nI 1 := by rw [← hjv]; exact hG1 j hj
                  refine lv_iconst (v := nI 1) hx hb dX0_roots_160 (by decide) ?_
                  refine lv_goto (tgt := 165) hx hb dX0_roots_161 (by decide) ?_
                  refine lv_aload_n hx hb dX0_roots_165 rfl (lv_at hl 2 rfl) ?_
                  refine lv_iload hx hb dX0_roots_166 (lv_at hl 3 rfl) ?_
                  refine va_zald hx hb hK hP 2 1 rfl rfl (vp_in_nI hv (by decide)) dX0_roots_168 ?_
                  refine gl_to (y := nI 1) (by rw [gl_cl hv]; exact hGv) ?_
                  refine lv_icmp_eq (tgt := 174) hx hb dX0_roots_169 (by decide) (fun c_169 => ?_) (fun c_169 => ?_)
                  · refine lv_iinc (v := nI (v + 1)) (lv' := [(4, .int (nI (v + 1))), (0, .ref h0), (2, .ref aq), (3, .ref bq), (5, .int (nI (gf_hn (gf_co r 8) v 8))), (6, .int (nI (8 - 8) + Int32.ofInt (-1)))]) hx hb dX0_roots_174 hl (k := 3) rfl (gl_inc v) (by decide) rfl (fun ls hl => ?_)
                    refine lv_goto (tgt := 102) hx hb dX0_roots_177 (by decide) ?_
                    exact ih ls [(0, .ref h0), (2, .ref aq), (3, .ref bq), (4, .int (nI (v + 1)))] H locs (lv_sub hl [1, 2, 3, 0] rfl) ⟨_, rfl, hP, hD, hS⟩
                  · exact absurd rfl c_169
            · exact absurd hneg c_126
      · intro ls lv H locs hl hI
        obtain ⟨f, rfl, hP, hD, hS⟩ := hI
        have hl : lv_has ls 7 [(0, .ref h0), (2, .ref aq), (3, .ref bq), (4, .int (nI 256))] := hl
        refine lv_iload hx hb dX0_roots_102 (lv_at hl 3 rfl) ?_
        refine lv_sipush (v := nI 256) hx hb dX0_roots_104 (by decide) ?_
        refine lv_icmp_ge (tgt := 180) hx hb dX0_roots_107 (by decide) (fun c_107 => ?_) (fun c_107 => ?_)
        · refine lv_iconst (v := nI 1) hx hb dX0_roots_180 (by decide) ?_
          have hP9 := hP.sub (ws' := [(h0, .inr (0, [.int f]))]) [0] rfl
          have hD9 := hD.sub (ws' := [(h0, .inr (0, [.int f]))]) [0] (by decide) rfl
          have hK9 := hK.sub (tys' := []) [] rfl
          exact W.zret (v := nI 1) hx hb hr rfl (fun t ht hW => ⟨⟨nI 1, f, rfl, rfl, by rw [ht]; exact hP9, va_K.moved hW.alike hK9, hD9⟩, hS.F ht⟩) hS.2.2 dX0_roots_181
        · exact absurd (nI_le (Nat.le_refl 256) (by decide)) c_107
    · exact absurd (nI_le (Nat.le_refl 8) (by decide)) c_22
end
section
/-! THE CLAIM OUT OF ONE WALK OF THE LAW'S BODY. Your part is whole_start (and what it stands on); all else here is the same for every law, but numbers. -/
def R_law : String := "ByteFieldLaw"
def lw_P (b : Addr) (xs : List Int32) (args : Array Value) (s : State) : Prop := args = #[.ref b] ∧ s.IntsAt b xs ∧ xs.length ≤ 96 ∧ (Jvm.Cond.and given_1 narrow_1).before args s = true
def lw_Q (_ : Array Value) (s : State) (o : Outcome) (t : State) : Prop := o = .returned (some (.int 1)) ∧ Framed s o t [] 1200000 5502250
def lw_Z (below : List Frame) (a : Array Value) (s : State) : State → Prop := fun t => ∃ o, t.status = .running ∧ Ended t below o ∧ lw_Q a s o t
/-- the law's own end, with 1 on the stack, nothing written that was there before, its room as the claim has it -/
theorem lw_ret {p : Program} {l : Launch} {e : Env} {s : State} {m : MethodId} {below : List Frame} {meth : Method} {c : Code} {b : Nat} (hx : p.tables.exec = Jvm.exec) (hb : c.code = code) (hr : meth.sig.returnType = ret) (hlocks : meth.locks = false) {pc : Nat} {H : Heap} {ls : Array Slot} (hdg : decode code pc = .ok (.ireturn, 1)) : W p l e room_1 s m #[Value.ref b] below meth c H [] 1200000 5502250 (lw_Z below #[Value.ref b] s) (F0 m pc ls [.int 1]) := by
  intro T hT X
  obtain ⟨fs, hret, hrun, hended, hW, hframe⟩ := X.leave (v := some (.int 1)) (hlocks := hlocks) (fun h => by rw [hr] at h; cases h)
  have hmeth' : T.vm.method? m = some meth := X.method'
  refine ⟨T.setFrames fs, ?_, .returned (some (.int 1)), hrun, hended, rfl, ⟨_, rfl⟩, hW, hframe⟩
  jvm_step X.here [X.here.top, hx, hb, hdg, hmeth', hr, ret, narrow_b1]
  (try refine ⟨rfl, ?_⟩); (try refine ⟨rfl, ?_⟩)
  first | (intro acts; rw [hret _ acts rfl rfl rfl]) | rw [hret _ _ rfl rfl rfl]
  exact Steps.refl _
/-- what holds at the law's entry: the machine, the code, the tables' words (any of lw_tbl by 'hts w (by decide +kernel)'), the script of L ints xs at the cell b, what the Statement gives of the start (any of its parts by flat_of_before) -/
def lw_At (p : Program) (s : State) (m : MethodId) (meth : Method) (c : Code) (b L : Nat) (xs : Nat → Int32) : Prop :=
  p.tables.exec = Jvm.exec ∧ c.code = code ∧ meth.sig.returnType = ret ∧ c.maxLocals = 11 ∧ s.vm.findClass R_law = some m.cls ∧ (∀ w ∈ lw_tbl, w.before #[Value.ref b] s = true) ∧ va_X b L xs s s.heap ∧ b < s.heap.size ∧ meth.locks = false ∧ (Jvm.Cond.and given_1 narrow_1).before #[Value.ref b] s = true
set_option maxHeartbeats 4000000 in
set_option maxRecDepth 100000 in
/-- the walk of the law's body -/
theorem whole_start {p : Program} {e : Env} {s : State} {m : MethodId} {below : List Frame} {meth : Method} {c : Code} (l : Launch) (hflags : l.flags = flags0) {b L : Nat} {xs : Nat → Int32} (hL : L ≤ 96) (C0 : lw_At p s m meth c b L xs) : W p l e room_1 s m #[Value.ref b] below meth c s.heap [] 0 0 (lw_Z below #[Value.ref b] s) (entryFrame m ([Value.ref b] : List Value).toArray 11) := by
  obtain ⟨hx, hb, hr, hml, hown, hts0, hX, hbl, hlocks, hgv⟩ := C0
  have hts : ∀ w ∈ lw_all, w.before #[Value.ref b] s = true := fun w h => hts0 w (lw_all_tbl h)
  have hown : s.vm.findClass RX0 = some m.cls := hown
  obtain ⟨c0_, iS0, hKn0⟩ := u_known (C := RX1) (T := TX1) (N := 1) (n := 1) hts0 (fun w h => lw_all_tbl (in_X1 w h)) (hts0 _ (lw_all_tbl q4))
  obtain ⟨dC, hdC⟩ : ∃ z : Nat → ClassId, z = fun _ => c0_ := ⟨_, rfl⟩
  obtain ⟨dI, hdI⟩ : ∃ z : Nat → Nat → Nat, z = fun _ => iS0 := ⟨_, rfl⟩
  have hK : va_K (dC, dI) vwCl [] s := by
    refine ⟨fun k q hq => ?_, fun k q hq => by simp at hq⟩
    match k, hq with
    | 0, hq => cases hq; rw [hdC, hdI]; exact hKn0
    | k + 1, hq => simp [vwCl] at hq
  obtain ⟨A, hAd⟩ : ∃ z : Nat → Prop, z = fun q => s.heap.size ≤ q := ⟨_, rfl⟩
  have hA : ∀ q : Nat, s.heap.size ≤ q → A q := fun q h => by rw [hAd]; exact h
  have hA2 : ∀ q : Nat, A q → s.heap.size ≤ q := fun q h => by rw [hAd] at h; exact h
  have hbA : ¬ A b := fun h => absurd hbl (Nat.not_lt.mpr (hA2 b h))
  have hS : va_S A s.heap s.heap [] := va_S.rf
  have hP : va_P (dC, dI) vwCl [] s.heap := fun k q hq => by simp at hq
  have hD : va_D A [] := ⟨fun i j p q hp => by simp at hp, fun k q hq => by simp at hq⟩
  have hl := lv_entry ([.ref b]) (n := 11) (Nat.le_of_ble_eq_true rfl)
  rw [lg_entry_eq]
  generalize (lg_sl ([.ref b]) ++ List.replicate (11 - (lg_sl ([.ref b])).length) Slot.unset).toArray = ls at hl ⊢
  have hl : lv_has ls 11 [(0, .ref b)] := hl
  refine va_new (ci := 0) (fs := [.int 0]) (C := RX1) (T := TX1) (N := 1) hx hb hts in_X1 tyX1 tyX1_ok hown (hts _ q3) (hts _ q4) (hts _ q1) hK hP hD hS hA rfl (fun j hj => by rcases (show j = 0 by omega) with rfl <;> rfl) (Nat.le_of_ble_eq_true rfl) (Nat.le_of_ble_eq_true rfl) dL_law_0 (fun x0 H hP hD hS => ?_)
  have hP : va_P (dC, dI) vwCl [(x0, .inr (0, [.int 0]))] H := hP
  have hD : va_D A [(x0, .inr (0, [.int 0]))] := hD
  refine W.widen (k := 1) (n := 1) (Nat.le_of_ble_eq_true rfl) (Nat.le_of_ble_eq_true rfl) ?_
  refine lv_dup hx hb dL_law_3 rfl ?_
  have hPc := hP.sub (ws' := [(x0, .inr (0, [.int 0]))]) [0] rfl
  have hDc := hD.sub (ws' := [(x0, .inr (0, [.int 0]))]) [0] (by decide) rfl
  have hKc := hK.sub (tys' := []) [] rfl
  have hFc := va_free (wc := [(x0, .inr (0, [.int 0]))]) hD hS hA [0] rfl
  refine va_callv (va_runI (As := []) (rest := [.ref x0]) ⟨hx, hb, hml, hown, hts⟩ (met_binit l dC dI x0 H.size 0) (cwI 0 hts (lw_meth q7) rfl rfl rfl (hts _ q1) (hts _ q5) (hts _ q6) rfl (by decide +kernel) ⟨Nat.le_of_ble_eq_true rfl, Nat.le_of_ble_eq_true rfl⟩) ⟨fun a U g mk q => by obtain ⟨q0, q1, qP, qK, qD⟩ := q; exact ⟨q0, q1, qP, va_K.moved (u := U) (U := U.calling g mk a) (Vm.Alike.refl U.vm) qK, qD⟩, fun U hU hW => ⟨rfl, by rw [hU], by rw [hU]; exact hPc, va_K.moved hW.alike hKc, hDc.weaken (fun _ _ _ _ => trivial)⟩⟩ rfl rfl hl.1 rfl (lv_room (Nat.le_of_ble_eq_true rfl)) dL_law_4 ⟨Nat.le_of_ble_eq_true rfl, Nat.le_of_ble_eq_true rfl⟩) hS (fun q _ h => hFc q h) hFc (fun u_ t H1 locs ht hvm hw hB hz1 hk1 hS => ?_)
  have hw : u_ = nI 1 := hw
  subst hw
  obtain ⟨hP1, hK1, hD1⟩ := hB
  rw [ht] at hP1
  obtain ⟨hP, hD⟩ := va_join (wr := []) (w1 := [(x0, .inr (0, [.int (nI 1)]))]) hP hD [0] [] rfl rfl (by decide) (by decide) hk1 hFc hP1 hD1
  generalize H1 = H at hP hS ⊢
  have hP : va_P (dC, dI) vwCl [(x0, .inr (0, [.int (nI 1)]))] H := hP
  have hD : va_D A [(x0, .inr (0, [.int (nI 1)]))] := hD
  refine lv_astore_n (lv' := [(1, .ref x0), (0, .ref b)]) hx hb dL_law_7 rfl hl (by decide) rfl (fun ls hl => ?_)
  refine lv_iconst (v := nI 1) hx hb dL_law_8 (by decide) ?_
  refine lv_istore_n (lv' := [(2, .int (nI 1)), (1, .ref x0), (0, .ref b)]) hx hb dL_law_9 rfl hl (by decide) rfl (fun ls hl => ?_)
  refine lv_iconst (v := nI 0) hx hb dL_law_10 (by decide) ?_
  refine lv_istore_n (lv' := [(3, .int (nI 0)), (2, .int (nI 1)), (1, .ref x0), (0, .ref b)]) hx hb dL_law_11 rfl hl (by decide) rfl (fun ls hl => ?_)
  refine gl_hloop (pc := 12) (nL := 11) (fun i lv H locs => ∃ (h : Nat), h < 256 ∧ lv = [(0, .ref b), (1, .ref x0), (2, .int (nI h)), (3, .int (nI (4 * i)))] ∧ va_P (dC, dI) vwCl [(x0, .inr (0, [.int (nI h)]))] H ∧ va_D A [(x0, .inr (0, [.int (nI h)]))] ∧ va_S A s.heap H locs) 24 ?_ ?_ [(0, .ref b), (1, .ref x0), (2, .int (nI 1)), (3, .int (nI (4 * 0)))] (lv_sub hl [3, 2, 1, 0] rfl) ⟨1, by decide, rfl, hP, hD, hS⟩
  · intro i hi ih ls lv H locs hl hI
    obtain ⟨h, hh, rfl, hP, hD, hS⟩ := hI
    refine lv_iload_n hx hb dL_law_12 rfl (lv_at hl 3 rfl) ?_
    refine lv_bipush (v := nI 96) hx hb dL_law_13 (by decide) ?_
    refine lv_icmp_ge (tgt := 313) hx hb dL_law_15 (by decide) (fun c_15 => ?_) (fun c_15 => ?_)
    · exact absurd c_15 (nI_ge (by omega) (by decide))
    · refine lv_aload_n hx hb dL_law_18 rfl (lv_at hl 0 rfl) ?_
      refine lv_iload_n hx hb dL_law_19 rfl (lv_at hl 3 rfl) ?_
      refine lv_iconst (v := nI 1) hx hb dL_law_20 (by decide) ?_
      refine lv_iadd hx hb dL_law_21 ?_
      refine gl_to (y := nI (4 * i + 1)) (nI_add _ _) ?_
      refine gl_call (W.runS (As := [.ref b, .int (nI (4 * i + 1))]) (rest := []) ⟨hx, hb, hml, hown, hts⟩ (met_cell l b L xs hL (4 * i + 1) (by omega)) (va_cwS 2 hts (lw_S q68 q69 q0 q70) rfl rfl rfl (by decide +kernel) ⟨Nat.le_of_ble_eq_true rfl, Nat.le_of_ble_eq_true rfl⟩) ⟨fun a U g mk q => ⟨q.1, va_X.moved (u := U) (U := U.calling g mk a) (Vm.Alike.refl U.vm) q.2⟩, fun U hU hW => ⟨rfl, by show va_X b L xs U U.heap; rw [hU]; exact va_X.moved hW.alike (hX.kept (hS.2.1 _ hbl hbA))⟩⟩ rfl rfl hl.1 rfl (lv_room (Nat.le_of_ble_eq_true rfl)) dL_law_22 ⟨Nat.le_of_ble_eq_true rfl, Nat.le_of_ble_eq_true rfl⟩) ?_
      generalize gl_cell L xs (4 * i + 1) = a1
      refine lv_istore (lv' := [(4, .int a1), (0, .ref b), (1, .ref x0), (2, .int (nI h)), (3, .int (nI (4 * i)))]) hx hb dL_law_25 hl (by decide) rfl (fun ls hl => ?_)
      refine lv_aload_n hx hb dL_law_27 rfl (lv_at hl 1 rfl) ?_
      refine lv_iload_n hx hb dL_law_28 rfl (lv_at hl 4 rfl) ?_
      refine lv_iconst (v := nI 2) hx hb dL_law_29 (by decide) ?_
      refine lv_iadd hx hb dL_law_30 ?_
      refine gl_to (y := nI (4 * i + 2)) (nI_add _ _) ?_
      refine gl_call (W.runS (As := [.ref b, .int (nI (4 * i + 2))]) (rest := []) ⟨hx, hb, hml, hown, hts⟩ (met_cell l b L xs hL (4 * i + 2) (by omega)) (va_cwS 2 hts (lw_S q68 q69 q0 q70) rfl rfl rfl (by decide +kernel) ⟨Nat.le_of_ble_eq_true rfl, Nat.le_of_ble_eq_true rfl⟩) ⟨fun a U g mk q => ⟨q.1, va_X.moved (u := U) (U := U.calling g mk a) (Vm.Alike.refl U.vm) q.2⟩, fun U hU hW => ⟨rfl, by show va_X b L xs U U.heap; rw [hU]; exact va_X.moved hW.alike (hX.kept (hS.2.1 _ hbl hbA))⟩⟩ rfl rfl hl.1 rfl (lv_room (Nat.le_of_ble_eq_true rfl)) dL_law_31 ⟨Nat.le_of_ble_eq_true rfl, Nat.le_of_ble_eq_true rfl⟩) ?_
      generalize gl_cell L xs (4 * i + 2) = b1
      refine lv_istore (lv' := [(5, .int b1), (4, .int a1), (0, .ref b), (1, .ref x0), (2, .int (nI h)), (3, .int (nI (4 * i)))]) hx hb dL_law_34 hl (by decide) rfl (fun ls hl => ?_)
      refine lv_aload_n hx hb dL_law_36 rfl (lv_at hl 2 rfl) ?_
      refine lv_iload_n hx hb dL_law_37 rfl (lv_at hl 5 rfl) ?_
      refine lv_iconst (v := nI 3) hx hb dL_law_38 (by decide) ?_
      refine lv_iadd hx hb dL_law_39 ?_
      refine gl_to (y := nI (4 * i + 3)) (nI_add _ _) ?_
      refine gl_call (W.runS (As := [.ref b, .int (nI (4 * i + 3))]) (rest := []) ⟨hx, hb, hml, hown, hts⟩ (met_cell l b L xs hL (4 * i + 3) (by omega)) (va_cwS 2 hts (lw_S q68 q69 q0 q70) rfl rfl rfl (by decide +kernel) ⟨Nat.le_of_ble_eq_true rfl, Nat.le_of_ble_eq_true rfl⟩) ⟨fun a U g mk q => ⟨q.1, va_X.moved (u := U) (U := U.calling g mk a) (Vm.Alike.refl U.vm) q.2⟩, fun U hU hW => ⟨rfl, by show va_X b L xs U U.heap; rw [hU]; exact va_X.moved hW.alike (hX.kept (hS.2.1 _ hbl hbA))⟩⟩ rfl rfl hl.1 rfl (lv_room (Nat.le_of_ble_eq_true rfl)) dL_law_40 ⟨Nat.le_of_ble_eq_true rfl, Nat.le_of_ble_eq_true rfl⟩) ?_
      generalize gl_cell L xs (4 * i + 3) = c1
      refine lv_istore (lv' := [(6, .int c1), (5, .int b1), (4, .int a1), (0, .ref b), (1, .ref x0), (2, .int (nI h)), (3, .int (nI (4 * i)))]) hx hb dL_law_43 hl (by decide) rfl (fun ls hl => ?_)
      refine lv_iload hx hb dL_law_45 (lv_at hl 2 rfl) ?_
      refine lv_sipush (v := nI 255) hx hb dL_law_47 (by decide) ?_
      refine lv_iand hx hb dL_law_50 ?_
      refine gl_to (y := nI (gl_lo a1)) (gl_and _) ?_
      refine lv_istore (lv' := [(7, .int (nI (gl_lo a1))), (6, .int c1), (5, .int b1), (4, .int a1), (0, .ref b), (1, .ref x0), (2, .int (nI h)), (3, .int (nI (4 * i)))]) hx hb dL_law_51 hl (by decide) rfl (fun ls hl => ?_)
      refine lv_iload hx hb dL_law_53 (lv_at hl 2 rfl) ?_
      refine lv_sipush (v := nI 255) hx hb dL_law_55 (by decide) ?_
      refine lv_iand hx hb dL_law_58 ?_
      refine gl_to (y := nI (gl_lo b1)) (gl_and _) ?_
      refine lv_istore (lv' := [(8, .int (nI (gl_lo b1))), (7, .int (nI (gl_lo a1))), (6, .int c1), (5, .int b1), (4, .int a1), (0, .ref b), (1, .ref x0), (2, .int (nI h)), (3, .int (nI (4 * i)))]) hx hb dL_law_59 hl (by decide) rfl (fun ls hl => ?_)
      refine lv_aload_n hx hb dL_law_61 rfl (lv_at hl 5 rfl) ?_
      refine lv_iload_n hx hb dL_law_62 rfl (lv_at hl 8 rfl) ?_
      have hp8 := gl_lo_lt a1
      have hq8 := gl_lo_lt b1
      have hc8 := gl_lo_lt c1
      refine gl_call (W.runS (As := [.ref b, .int (nI (4 * i))]) (rest := []) ⟨hx, hb, hml, hown, hts⟩ (met_cell l b L xs hL (4 * i) (by omega)) (va_cwS 2 hts (lw_S q68 q69 q0 q70) rfl rfl rfl (by decide +kernel) ⟨Nat.le_of_ble_eq_true rfl, Nat.le_of_ble_eq_true rfl⟩) ⟨fun a U g mk q => ⟨q.1, va_X.moved (u := U) (U := U.calling g mk a) (Vm.Alike.refl U.vm) q.2⟩, fun U hU hW => ⟨rfl, by show va_X b L xs U U.heap; rw [hU]; exact va_X.moved hW.alike (hX.kept (hS.2.1 _ hbl hbA))⟩⟩ rfl rfl hl.1 rfl (lv_room (Nat.le_of_ble_eq_true rfl)) dL_law_63 ⟨Nat.le_of_ble_eq_true rfl, Nat.le_of_ble_eq_true rfl⟩) ?_
      refine lv_bipush (v := nI 7) hx hb dL_law_66 (by decide) ?_
      obtain ⟨j, hj, hje⟩ := gl_and_7 (gl_cell L xs (4 * i))
      refine lv_iand hx hb dL_law_68 ?_
      refine gl_to (y := nI j) (hje) ?_
      refine gl_meetH 298 (fun ls H locs => ∃ (h2 : Nat) (v : Int32), h2 < 256 ∧ lv_has ls 11 [(0, .ref b), (1, .ref x0), (2, .int (nI h2)), (3, .int (nI (4 * i))), (9, .int v), (10, .int v)] ∧ va_P (dC, dI) vwCl [(x0, .inr (0, [.int (nI h2)]))] H ∧ va_D A [(x0, .inr (0, [.int (nI h2)]))] ∧ va_S A s.heap H locs) ?_ (fun hm => ?_)
      · rintro ls H locs ⟨h2, v, hh2, hl, hP, hD, hS⟩
        refine lv_iload hx hb dL_law_298 (lv_at hl 4 rfl) ?_
        refine lv_iload hx hb dL_law_300 (lv_at hl 5 rfl) ?_
        refine lv_icmp_eq (tgt := 307) hx hb dL_law_302 (by decide) (fun c_302 => ?_) (fun c_302 => ?_)
        · refine lv_iinc (v := nI (4 * (i + 1))) (lv' := [(3, .int (nI (4 * (i + 1)))), (0, .ref b), (1, .ref x0), (2, .int (nI h2)), (9, .int v), (10, .int v)]) hx hb dL_law_307 hl (k := 3) rfl (gl_inc4 _) (by decide) rfl (fun ls hl => ?_)
          refine lv_goto (tgt := 12) hx hb dL_law_310 (by decide) ?_
          exact ih ls [(0, .ref b), (1, .ref x0), (2, .int (nI h2)), (3, .int (nI (4 * (i + 1))))] H locs (lv_sub hl [1, 2, 3, 0] rfl) ⟨h2, hh2, rfl, hP, hD, hS⟩
        · exact absurd rfl c_302
      · have hcases : j = 0 ∨ j = 1 ∨ j = 2 ∨ j = 3 ∨ j = 4 ∨ j = 5 ∨ j = 6 ∨ j = 7 := by omega
        rcases hcases with rfl | rfl | rfl | rfl | rfl | rfl | rfl | rfl
        · refine lv_tableIn (off := 43) (tgt := 112) hx hb dL_law_69 (by decide +kernel) (by decide +kernel) (by decide +kernel) (by decide) ?_
          refine lv_aload_n hx hb dL_law_112 rfl (lv_at hl 6 rfl) ?_
          refine lv_iload hx hb dL_law_113 (lv_at hl 4 rfl) ?_
          refine lv_iload hx hb dL_law_115 (lv_at hl 3 rfl) ?_
          refine gl_call (W.runV (As := [.int a1, .int b1]) (rest := []) ⟨hx, hb, hml, hown, hts⟩ (met_times l x0 a1 b1) (cwV 2 hts (lw_V q15 q16 q17 q1 q18) rfl rfl rfl (by decide +kernel) ⟨Nat.le_of_ble_eq_true rfl, Nat.le_of_ble_eq_true rfl⟩) ⟨fun _ _ _ _ q => q, va_recv hK hP (ci := 0) (q0 := 0) rfl rfl, fun _ _ _ => rfl⟩ rfl rfl hl.1 rfl (lv_room (Nat.le_of_ble_eq_true rfl)) dL_law_117 ⟨Nat.le_of_ble_eq_true rfl, Nat.le_of_ble_eq_true rfl⟩) ?_
          refine lv_istore (lv' := [(9, .int (nI (gf_mul (gl_lo a1) (gl_lo b1)))), (8, .int (nI (gl_lo b1))), (7, .int (nI (gl_lo a1))), (6, .int c1), (5, .int b1), (4, .int a1), (0, .ref b), (1, .ref x0), (2, .int (nI h)), (3, .int (nI (4 * i)))]) hx hb dL_law_120 hl (by decide) rfl (fun ls hl => ?_)
          refine lv_iload hx hb dL_law_122 (lv_at hl 2 rfl) ?_
          refine lv_iload hx hb dL_law_124 (lv_at hl 1 rfl) ?_
          refine gl_call (W.runS (As := [.int (nI (gl_lo a1)), .int (nI (gl_lo b1))]) (rest := []) ⟨hx, hb, hml, hown, hts⟩ (met_product l (gl_lo a1) (gl_lo b1) hp8 hq8) (va_cwS 2 hts (lw_S q71 q72 q0 q73) rfl rfl rfl (by decide +kernel) ⟨Nat.le_of_ble_eq_true rfl, Nat.le_of_ble_eq_true rfl⟩) preEq rfl rfl hl.1 rfl (lv_room (Nat.le_of_ble_eq_true rfl)) dL_law_126 ⟨Nat.le_of_ble_eq_true rfl, Nat.le_of_ble_eq_true rfl⟩) ?_
          refine lv_istore (lv' := [(10, .int (nI (gf_mul (gl_lo a1) (gl_lo b1)))), (9, .int (nI (gf_mul (gl_lo a1) (gl_lo b1)))), (8, .int (nI (gl_lo b1))), (7, .int (nI (gl_lo a1))), (6, .int c1), (5, .int b1), (4, .int a1), (0, .ref b), (1, .ref x0), (2, .int (nI h)), (3, .int (nI (4 * i)))]) hx hb dL_law_129 hl (by decide) rfl (fun ls hl => ?_)
          refine lv_goto (tgt := 298) hx hb dL_law_131 (by decide) ?_
          exact hm ls H locs ⟨h, nI (gf_mul (gl_lo a1) (gl_lo b1)), hh, lv_sub hl [7, 8, 9, 10, 1, 0] rfl, hP, hD, hS⟩
        · refine lv_tableIn (off := 65) (tgt := 134) hx hb dL_law_69 (by decide +kernel) (by decide +kernel) (by decide +kernel) (by decide) ?_
          refine lv_aload_n hx hb dL_law_134 rfl (lv_at hl 6 rfl) ?_
          refine lv_iload hx hb dL_law_135 (lv_at hl 4 rfl) ?_
          refine lv_iload hx hb dL_law_137 (lv_at hl 3 rfl) ?_
          refine lv_iload hx hb dL_law_139 (lv_at hl 2 rfl) ?_
          refine gl_call (W.runV (As := [.int a1, .int b1, .int c1]) (rest := []) ⟨hx, hb, hml, hown, hts⟩ (met_timesThree l x0 a1 b1 c1) (cwV 3 hts (lw_V q25 q26 q27 q1 q28) rfl rfl rfl (by decide +kernel) ⟨Nat.le_of_ble_eq_true rfl, Nat.le_of_ble_eq_true rfl⟩) ⟨fun _ _ _ _ q => q, va_recv hK hP (ci := 0) (q0 := 0) rfl rfl, fun _ _ _ => rfl⟩ rfl rfl hl.1 rfl (lv_room (Nat.le_of_ble_eq_true rfl)) dL_law_141 ⟨Nat.le_of_ble_eq_true rfl, Nat.le_of_ble_eq_true rfl⟩) ?_
          refine lv_istore (lv' := [(9, .int (nI (gf_mul (gf_mul (gl_lo a1) (gl_lo b1)) (gl_lo c1)))), (8, .int (nI (gl_lo b1))), (7, .int (nI (gl_lo a1))), (6, .int c1), (5, .int b1), (4, .int a1), (0, .ref b), (1, .ref x0), (2, .int (nI h)), (3, .int (nI (4 * i)))]) hx hb dL_law_144 hl (by decide) rfl (fun ls hl => ?_)
          refine lv_iload hx hb dL_law_146 (lv_at hl 2 rfl) ?_
          refine lv_iload hx hb dL_law_148 (lv_at hl 1 rfl) ?_
          refine gl_call (W.runS (As := [.int (nI (gl_lo a1)), .int (nI (gl_lo b1))]) (rest := []) ⟨hx, hb, hml, hown, hts⟩ (met_product l (gl_lo a1) (gl_lo b1) hp8 hq8) (va_cwS 2 hts (lw_S q71 q72 q0 q73) rfl rfl rfl (by decide +kernel) ⟨Nat.le_of_ble_eq_true rfl, Nat.le_of_ble_eq_true rfl⟩) preEq rfl rfl hl.1 rfl (lv_room (Nat.le_of_ble_eq_true rfl)) dL_law_150 ⟨Nat.le_of_ble_eq_true rfl, Nat.le_of_ble_eq_true rfl⟩) ?_
          refine lv_iload hx hb dL_law_153 (lv_at hl 3 rfl) ?_
          refine lv_sipush (v := nI 255) hx hb dL_law_155 (by decide) ?_
          refine lv_iand hx hb dL_law_158 ?_
          refine gl_to (y := nI (gl_lo c1)) (gl_and _) ?_
          refine gl_call (W.runS (As := [.int (nI (gf_mul (gl_lo a1) (gl_lo b1))), .int (nI (gl_lo c1))]) (rest := []) ⟨hx, hb, hml, hown, hts⟩ (met_product l (gf_mul (gl_lo a1) (gl_lo b1)) (gl_lo c1) (gf_lt _ _) hc8) (va_cwS 2 hts (lw_S q71 q72 q0 q73) rfl rfl rfl (by decide +kernel) ⟨Nat.le_of_ble_eq_true rfl, Nat.le_of_ble_eq_true rfl⟩) preEq rfl rfl hl.1 rfl (lv_room (Nat.le_of_ble_eq_true rfl)) dL_law_159 ⟨Nat.le_of_ble_eq_true rfl, Nat.le_of_ble_eq_true rfl⟩) ?_
          refine lv_istore (lv' := [(10, .int (nI (gf_mul (gf_mul (gl_lo a1) (gl_lo b1)) (gl_lo c1)))), (9, .int (nI (gf_mul (gf_mul (gl_lo a1) (gl_lo b1)) (gl_lo c1)))), (8, .int (nI (gl_lo b1))), (7, .int (nI (gl_lo a1))), (6, .int c1), (5, .int b1), (4, .int a1), (0, .ref b), (1, .ref x0), (2, .int (nI h)), (3, .int (nI (4 * i)))]) hx hb dL_law_162 hl (by decide) rfl (fun ls hl => ?_)
          refine lv_goto (tgt := 298) hx hb dL_law_164 (by decide) ?_
          exact hm ls H locs ⟨h, nI (gf_mul (gf_mul (gl_lo a1) (gl_lo b1)) (gl_lo c1)), hh, lv_sub hl [7, 8, 9, 10, 1, 0] rfl, hP, hD, hS⟩
        · refine lv_tableIn (off := 98) (tgt := 167) hx hb dL_law_69 (by decide +kernel) (by decide +kernel) (by decide +kernel) (by decide) ?_
          refine lv_aload_n hx hb dL_law_167 rfl (lv_at hl 6 rfl) ?_
          refine lv_iload hx hb dL_law_168 (lv_at hl 4 rfl) ?_
          refine gl_call (W.runV (As := [.int a1]) (rest := []) ⟨hx, hb, hml, hown, hts⟩ (met_square l x0 a1) (cwV 1 hts (lw_V q33 q34 q35 q1 q36) rfl rfl rfl (by decide +kernel) ⟨Nat.le_of_ble_eq_true rfl, Nat.le_of_ble_eq_true rfl⟩) ⟨fun _ _ _ _ q => q, va_recv hK hP (ci := 0) (q0 := 0) rfl rfl, fun _ _ _ => rfl⟩ rfl rfl hl.1 rfl (lv_room (Nat.le_of_ble_eq_true rfl)) dL_law_170 ⟨Nat.le_of_ble_eq_true rfl, Nat.le_of_ble_eq_true rfl⟩) ?_
          refine gl_to (y := nI (gf_mul (gl_lo a1) (gl_lo a1))) (by rw [gf_sqr_eq _ hp8]) ?_
          refine lv_istore (lv' := [(9, .int (nI (gf_mul (gl_lo a1) (gl_lo a1)))), (8, .int (nI (gl_lo b1))), (7, .int (nI (gl_lo a1))), (6, .int c1), (5, .int b1), (4, .int a1), (0, .ref b), (1, .ref x0), (2, .int (nI h)), (3, .int (nI (4 * i)))]) hx hb dL_law_173 hl (by decide) rfl (fun ls hl => ?_)
          refine lv_iload hx hb dL_law_175 (lv_at hl 2 rfl) ?_
          refine lv_iload hx hb dL_law_177 (lv_at hl 2 rfl) ?_
          refine gl_call (W.runS (As := [.int (nI (gl_lo a1)), .int (nI (gl_lo a1))]) (rest := []) ⟨hx, hb, hml, hown, hts⟩ (met_product l (gl_lo a1) (gl_lo a1) hp8 hp8) (va_cwS 2 hts (lw_S q71 q72 q0 q73) rfl rfl rfl (by decide +kernel) ⟨Nat.le_of_ble_eq_true rfl, Nat.le_of_ble_eq_true rfl⟩) preEq rfl rfl hl.1 rfl (lv_room (Nat.le_of_ble_eq_true rfl)) dL_law_179 ⟨Nat.le_of_ble_eq_true rfl, Nat.le_of_ble_eq_true rfl⟩) ?_
          refine lv_istore (lv' := [(10, .int (nI (gf_mul (gl_lo a1) (gl_lo a1)))), (9, .int (nI (gf_mul (gl_lo a1) (gl_lo a1)))), (8, .int (nI (gl_lo b1))), (7, .int (nI (gl_lo a1))), (6, .int c1), (5, .int b1), (4, .int a1), (0, .ref b), (1, .ref x0), (2, .int (nI h)), (3, .int (nI (4 * i)))]) hx hb dL_law_182 hl (by decide) rfl (fun ls hl => ?_)
          refine lv_goto (tgt := 298) hx hb dL_law_184 (by decide) ?_
          exact hm ls H locs ⟨h, nI (gf_mul (gl_lo a1) (gl_lo a1)), hh, lv_sub hl [7, 8, 9, 10, 1, 0] rfl, hP, hD, hS⟩
        · refine lv_tableIn (off := 118) (tgt := 187) hx hb dL_law_69 (by decide +kernel) (by decide +kernel) (by decide +kernel) (by decide) ?_
          refine lv_aload_n hx hb dL_law_187 rfl (lv_at hl 6 rfl) ?_
          refine lv_iload hx hb dL_law_188 (lv_at hl 4 rfl) ?_
          refine gl_call (W.runV (As := [.int a1]) (rest := []) ⟨hx, hb, hml, hown, hts⟩ (met_inverse l x0 a1) (cwV 1 hts (lw_V q40 q41 q42 q1 q43) rfl rfl rfl (by decide +kernel) ⟨Nat.le_of_ble_eq_true rfl, Nat.le_of_ble_eq_true rfl⟩) ⟨fun _ _ _ _ q => q, va_recv hK hP (ci := 0) (q0 := 0) rfl rfl, fun _ _ _ => rfl⟩ rfl rfl hl.1 rfl (lv_room (Nat.le_of_ble_eq_true rfl)) dL_law_190 ⟨Nat.le_of_ble_eq_true rfl, Nat.le_of_ble_eq_true rfl⟩) ?_
          refine lv_istore (lv' := [(9, .int (gl_inv (gl_lo a1))), (8, .int (nI (gl_lo b1))), (7, .int (nI (gl_lo a1))), (6, .int c1), (5, .int b1), (4, .int a1), (0, .ref b), (1, .ref x0), (2, .int (nI h)), (3, .int (nI (4 * i)))]) hx hb dL_law_193 hl (by decide) rfl (fun ls hl => ?_)
          refine lv_iload hx hb dL_law_195 (lv_at hl 2 rfl) ?_
          refine gl_call (W.runS (As := [.int (nI (gl_lo a1))]) (rest := []) ⟨hx, hb, hml, hown, hts⟩ (met_linverse l (gl_lo a1) hp8) (va_cwS 1 hts (lw_S q74 q75 q0 q76) rfl rfl rfl (by decide +kernel) ⟨Nat.le_of_ble_eq_true rfl, Nat.le_of_ble_eq_true rfl⟩) preEq rfl rfl hl.1 rfl (lv_room (Nat.le_of_ble_eq_true rfl)) dL_law_197 ⟨Nat.le_of_ble_eq_true rfl, Nat.le_of_ble_eq_true rfl⟩) ?_
          refine lv_istore (lv' := [(10, .int (gl_inv (gl_lo a1))), (9, .int (gl_inv (gl_lo a1))), (8, .int (nI (gl_lo b1))), (7, .int (nI (gl_lo a1))), (6, .int c1), (5, .int b1), (4, .int a1), (0, .ref b), (1, .ref x0), (2, .int (nI h)), (3, .int (nI (4 * i)))]) hx hb dL_law_200 hl (by decide) rfl (fun ls hl => ?_)
          refine lv_goto (tgt := 298) hx hb dL_law_202 (by decide) ?_
          exact hm ls H locs ⟨h, (gl_inv (gl_lo a1)), hh, lv_sub hl [7, 8, 9, 10, 1, 0] rfl, hP, hD, hS⟩
        · refine lv_tableIn (off := 136) (tgt := 205) hx hb dL_law_69 (by decide +kernel) (by decide +kernel) (by decide +kernel) (by decide) ?_
          refine lv_aload_n hx hb dL_law_205 rfl (lv_at hl 6 rfl) ?_
          refine lv_iload hx hb dL_law_206 (lv_at hl 4 rfl) ?_
          refine lv_iload hx hb dL_law_208 (lv_at hl 3 rfl) ?_
          refine gl_call (W.runV (As := [.int a1, .int b1]) (rest := []) ⟨hx, hb, hml, hown, hts⟩ (met_divide l x0 a1 b1) (cwV 2 hts (lw_V q48 q49 q50 q1 q51) rfl rfl rfl (by decide +kernel) ⟨Nat.le_of_ble_eq_true rfl, Nat.le_of_ble_eq_true rfl⟩) ⟨fun _ _ _ _ q => q, va_recv hK hP (ci := 0) (q0 := 0) rfl rfl, fun _ _ _ => rfl⟩ rfl rfl hl.1 rfl (lv_room (Nat.le_of_ble_eq_true rfl)) dL_law_210 ⟨Nat.le_of_ble_eq_true rfl, Nat.le_of_ble_eq_true rfl⟩) ?_
          refine lv_istore (lv' := [(9, .int (gl_div (gl_lo a1) (gl_lo b1))), (8, .int (nI (gl_lo b1))), (7, .int (nI (gl_lo a1))), (6, .int c1), (5, .int b1), (4, .int a1), (0, .ref b), (1, .ref x0), (2, .int (nI h)), (3, .int (nI (4 * i)))]) hx hb dL_law_213 hl (by decide) rfl (fun ls hl => ?_)
          refine lv_iload hx hb dL_law_215 (lv_at hl 1 rfl) ?_
          refine lv_if_ne (tgt := 224) hx hb dL_law_217 (by decide) (fun c_217 => ?_) (fun c_217 => ?_)
          · have hq0 : gl_lo b1 ≠ 0 := fun h => c_217 (by rw [h]; exact nI_0)
            refine lv_iload hx hb dL_law_224 (lv_at hl 2 rfl) ?_
            refine lv_iload hx hb dL_law_226 (lv_at hl 1 rfl) ?_
            refine gl_call (W.runS (As := [.int (nI (gl_lo b1))]) (rest := [.int (nI (gl_lo a1))]) ⟨hx, hb, hml, hown, hts⟩ (met_linverse l (gl_lo b1) hq8) (va_cwS 1 hts (lw_S q74 q75 q0 q76) rfl rfl rfl (by decide +kernel) ⟨Nat.le_of_ble_eq_true rfl, Nat.le_of_ble_eq_true rfl⟩) preEq rfl rfl hl.1 rfl (lv_room (Nat.le_of_ble_eq_true rfl)) dL_law_228 ⟨Nat.le_of_ble_eq_true rfl, Nat.le_of_ble_eq_true rfl⟩) ?_
            refine gl_to (y := nI (gf_inv (gl_lo b1))) (if_neg hq0) ?_
            refine gl_call (W.runS (As := [.int (nI (gl_lo a1)), .int (nI (gf_inv (gl_lo b1)))]) (rest := []) ⟨hx, hb, hml, hown, hts⟩ (met_product l (gl_lo a1) (gf_inv (gl_lo b1)) hp8 (gf_inv_lt _)) (va_cwS 2 hts (lw_S q71 q72 q0 q73) rfl rfl rfl (by decide +kernel) ⟨Nat.le_of_ble_eq_true rfl, Nat.le_of_ble_eq_true rfl⟩) preEq rfl rfl hl.1 rfl (lv_room (Nat.le_of_ble_eq_true rfl)) dL_law_231 ⟨Nat.le_of_ble_eq_true rfl, Nat.le_of_ble_eq_true rfl⟩) ?_
            refine gl_to (y := gl_div (gl_lo a1) (gl_lo b1)) (if_neg hq0).symm ?_
            refine lv_istore (lv' := [(10, .int (gl_div (gl_lo a1) (gl_lo b1))), (9, .int (gl_div (gl_lo a1) (gl_lo b1))), (8, .int (nI (gl_lo b1))), (7, .int (nI (gl_lo a1))), (6, .int c1), (5, .int b1), (4, .int a1), (0, .ref b), (1, .ref x0), (2, .int (nI h)), (3, .int (nI (4 * i)))]) hx hb dL_law_234 hl (by decide) rfl (fun ls hl => ?_)
            refine lv_goto (tgt := 298) hx hb dL_law_236 (by decide) ?_
            exact hm ls H locs ⟨h, (gl_div (gl_lo a1) (gl_lo b1)), hh, lv_sub hl [7, 8, 9, 10, 1, 0] rfl, hP, hD, hS⟩
          · have hq0 : gl_lo b1 = 0 := (gl_eq hq8 (by decide)).mp (c_217.trans nI_0.symm)
            refine lv_iconst (v := (-1)) hx hb dL_law_220 (by decide) ?_
            refine lv_goto (tgt := 234) hx hb dL_law_221 (by decide) ?_
            refine gl_to (y := gl_div (gl_lo a1) (gl_lo b1)) (if_pos hq0).symm ?_
            refine lv_istore (lv' := [(10, .int (gl_div (gl_lo a1) (gl_lo b1))), (9, .int (gl_div (gl_lo a1) (gl_lo b1))), (8, .int (nI (gl_lo b1))), (7, .int (nI (gl_lo a1))), (6, .int c1), (5, .int b1), (4, .int a1), (0, .ref b), (1, .ref x0), (2, .int (nI h)), (3, .int (nI (4 * i)))]) hx hb dL_law_234 hl (by decide) rfl (fun ls hl => ?_)
            refine lv_goto (tgt := 298) hx hb dL_law_236 (by decide) ?_
            exact hm ls H locs ⟨h, (gl_div (gl_lo a1) (gl_lo b1)), hh, lv_sub hl [7, 8, 9, 10, 1, 0] rfl, hP, hD, hS⟩
        · refine lv_tableIn (off := 170) (tgt := 239) hx hb dL_law_69 (by decide +kernel) (by decide +kernel) (by decide +kernel) (by decide) ?_
          refine lv_aload_n hx hb dL_law_239 rfl (lv_at hl 6 rfl) ?_
          refine lv_iload hx hb dL_law_240 (lv_at hl 4 rfl) ?_
          have hPc := hP.sub (ws' := [(x0, .inr (0, [.int (nI h)]))]) [0] rfl
          have hDc := hD.sub (ws' := [(x0, .inr (0, [.int (nI h)]))]) [0] (by decide) rfl
          have hKc := hK.sub (tys' := []) [] rfl
          have hFc := va_free (wc := [(x0, .inr (0, [.int (nI h)]))]) hD hS hA [0] rfl
          refine va_calli (va_runV (As := [.int a1]) (rest := []) ⟨hx, hb, hml, hown, hts⟩ (met_hold l dC dI x0 H.size (nI h) a1) (cwV 1 hts (lw_V q56 q57 q58 q1 q59) rfl rfl rfl (by decide +kernel) ⟨Nat.le_of_ble_eq_true rfl, Nat.le_of_ble_eq_true rfl⟩) ⟨fun a U g mk q => by obtain ⟨q0, q1, qP, qK, qD⟩ := q; exact ⟨q0, q1, qP, va_K.moved (u := U) (U := U.calling g mk a) (Vm.Alike.refl U.vm) qK, qD⟩, va_recv hKc hPc (ci := 0) (q0 := 0) rfl rfl, fun U hU hW => ⟨rfl, by rw [hU], by rw [hU]; exact hPc, va_K.moved hW.alike hKc, hDc.weaken (fun _ _ _ _ => trivial)⟩⟩ rfl rfl hl.1 rfl (lv_room (Nat.le_of_ble_eq_true rfl)) dL_law_242 ⟨Nat.le_of_ble_eq_true rfl, Nat.le_of_ble_eq_true rfl⟩) hS (fun q _ h => hFc q h) hFc (fun r_ u_ t H1 locs ht hvm hw hB hz1 hk1 hS => ?_)
          have hw : r_ = nI (gl_lo a1) ∧ u_ = nI (gl_lo a1) := hw
          obtain ⟨rfl, rfl⟩ := hw
          obtain ⟨hP1, hK1, hD1⟩ := hB
          rw [ht] at hP1
          obtain ⟨hP, hD⟩ := va_join (wr := []) (w1 := [(x0, .inr (0, [.int (nI (gl_lo a1))]))]) hP hD [0] [] rfl rfl (by decide) (by decide) hk1 hFc hP1 hD1
          generalize H1 = H at hP hS ⊢
          have hP : va_P (dC, dI) vwCl [(x0, .inr (0, [.int (nI (gl_lo a1))]))] H := hP.sub [0] rfl
          have hD : va_D A [(x0, .inr (0, [.int (nI (gl_lo a1))]))] := hD.sub [0] (by decide) rfl
          refine lv_istore (lv' := [(9, .int (nI (gl_lo a1))), (8, .int (nI (gl_lo b1))), (7, .int (nI (gl_lo a1))), (6, .int c1), (5, .int b1), (4, .int a1), (0, .ref b), (1, .ref x0), (2, .int (nI h)), (3, .int (nI (4 * i)))]) hx hb dL_law_245 hl (by decide) rfl (fun ls hl => ?_)
          refine lv_iload hx hb dL_law_247 (lv_at hl 2 rfl) ?_
          refine lv_istore_n (lv' := [(2, .int (nI (gl_lo a1))), (9, .int (nI (gl_lo a1))), (8, .int (nI (gl_lo b1))), (7, .int (nI (gl_lo a1))), (6, .int c1), (5, .int b1), (4, .int a1), (0, .ref b), (1, .ref x0), (3, .int (nI (4 * i)))]) hx hb dL_law_249 rfl hl (by decide) rfl (fun ls hl => ?_)
          refine lv_iload_n hx hb dL_law_250 rfl (lv_at hl 0 rfl) ?_
          refine lv_istore (lv' := [(10, .int (nI (gl_lo a1))), (2, .int (nI (gl_lo a1))), (9, .int (nI (gl_lo a1))), (8, .int (nI (gl_lo b1))), (7, .int (nI (gl_lo a1))), (6, .int c1), (5, .int b1), (4, .int a1), (0, .ref b), (1, .ref x0), (3, .int (nI (4 * i)))]) hx hb dL_law_251 hl (by decide) rfl (fun ls hl => ?_)
          refine lv_goto (tgt := 298) hx hb dL_law_253 (by decide) ?_
          exact hm ls H locs ⟨gl_lo a1, nI (gl_lo a1), hp8, lv_sub hl [8, 9, 1, 10, 2, 0] rfl, hP, hD, hS⟩
        · refine lv_tableIn (off := 187) (tgt := 256) hx hb dL_law_69 (by decide +kernel) (by decide +kernel) (by decide +kernel) (by decide) ?_
          refine lv_aload_n hx hb dL_law_256 rfl (lv_at hl 6 rfl) ?_
          refine lv_iload hx hb dL_law_257 (lv_at hl 4 rfl) ?_
          refine lv_iload hx hb dL_law_259 (lv_at hl 3 rfl) ?_
          have hPc := hP.sub (ws' := [(x0, .inr (0, [.int (nI h)]))]) [0] rfl
          have hDc := hD.sub (ws' := [(x0, .inr (0, [.int (nI h)]))]) [0] (by decide) rfl
          have hKc := hK.sub (tys' := []) [] rfl
          have hFc := va_free (wc := [(x0, .inr (0, [.int (nI h)]))]) hD hS hA [0] rfl
          refine va_calli (va_runV (As := [.int a1, .int b1]) (rest := []) ⟨hx, hb, hml, hown, hts⟩ (met_fold l dC dI x0 H.size (nI h) h rfl hh a1 b1) (cwV 2 hts (lw_V q60 q61 q62 q1 q63) rfl rfl rfl (by decide +kernel) ⟨Nat.le_of_ble_eq_true rfl, Nat.le_of_ble_eq_true rfl⟩) ⟨fun a U g mk q => by obtain ⟨q0, q1, qP, qK, qD⟩ := q; exact ⟨q0, q1, qP, va_K.moved (u := U) (U := U.calling g mk a) (Vm.Alike.refl U.vm) qK, qD⟩, va_recv hKc hPc (ci := 0) (q0 := 0) rfl rfl, fun U hU hW => ⟨rfl, by rw [hU], by rw [hU]; exact hPc, va_K.moved hW.alike hKc, hDc.weaken (fun _ _ _ _ => trivial)⟩⟩ rfl rfl hl.1 rfl (lv_room (Nat.le_of_ble_eq_true rfl)) dL_law_261 ⟨Nat.le_of_ble_eq_true rfl, Nat.le_of_ble_eq_true rfl⟩) hS (fun q _ h => hFc q h) hFc (fun r_ u_ t H1 locs ht hvm hw hB hz1 hk1 hS => ?_)
          have hw : r_ = nI (gf_mul h (gl_lo a1) ^^^ gl_lo b1) ∧ u_ = nI (gf_mul h (gl_lo a1) ^^^ gl_lo b1) := hw
          obtain ⟨rfl, rfl⟩ := hw
          obtain ⟨hP1, hK1, hD1⟩ := hB
          rw [ht] at hP1
          obtain ⟨hP, hD⟩ := va_join (wr := []) (w1 := [(x0, .inr (0, [.int (nI (gf_mul h (gl_lo a1) ^^^ gl_lo b1))]))]) hP hD [0] [] rfl rfl (by decide) (by decide) hk1 hFc hP1 hD1
          generalize H1 = H at hP hS ⊢
          have hP : va_P (dC, dI) vwCl [(x0, .inr (0, [.int (nI (gf_mul h (gl_lo a1) ^^^ gl_lo b1))]))] H := hP.sub [0] rfl
          have hD : va_D A [(x0, .inr (0, [.int (nI (gf_mul h (gl_lo a1) ^^^ gl_lo b1))]))] := hD.sub [0] (by decide) rfl
          refine lv_istore (lv' := [(9, .int (nI (gf_mul h (gl_lo a1) ^^^ gl_lo b1))), (8, .int (nI (gl_lo b1))), (7, .int (nI (gl_lo a1))), (6, .int c1), (5, .int b1), (4, .int a1), (0, .ref b), (1, .ref x0), (2, .int (nI h)), (3, .int (nI (4 * i)))]) hx hb dL_law_264 hl (by decide) rfl (fun ls hl => ?_)
          refine lv_iload_n hx hb dL_law_266 rfl (lv_at hl 8 rfl) ?_
          refine lv_iload hx hb dL_law_267 (lv_at hl 2 rfl) ?_
          refine gl_call (W.runS (As := [.int (nI h), .int (nI (gl_lo a1))]) (rest := []) ⟨hx, hb, hml, hown, hts⟩ (met_product l h (gl_lo a1) hh hp8) (va_cwS 2 hts (lw_S q71 q72 q0 q73) rfl rfl rfl (by decide +kernel) ⟨Nat.le_of_ble_eq_true rfl, Nat.le_of_ble_eq_true rfl⟩) preEq rfl rfl hl.1 rfl (lv_room (Nat.le_of_ble_eq_true rfl)) dL_law_269 ⟨Nat.le_of_ble_eq_true rfl, Nat.le_of_ble_eq_true rfl⟩) ?_
          refine lv_iload hx hb dL_law_272 (lv_at hl 1 rfl) ?_
          refine lv_ixor hx hb dL_law_274 ?_
          refine gl_to (y := nI (gf_mul h (gl_lo a1) ^^^ gl_lo b1)) (nx_xor _ _) ?_
          refine lv_istore_n (lv' := [(2, .int (nI (gf_mul h (gl_lo a1) ^^^ gl_lo b1))), (9, .int (nI (gf_mul h (gl_lo a1) ^^^ gl_lo b1))), (8, .int (nI (gl_lo b1))), (7, .int (nI (gl_lo a1))), (6, .int c1), (5, .int b1), (4, .int a1), (0, .ref b), (1, .ref x0), (3, .int (nI (4 * i)))]) hx hb dL_law_275 rfl hl (by decide) rfl (fun ls hl => ?_)
          refine lv_iload_n hx hb dL_law_276 rfl (lv_at hl 0 rfl) ?_
          refine lv_istore (lv' := [(10, .int (nI (gf_mul h (gl_lo a1) ^^^ gl_lo b1))), (2, .int (nI (gf_mul h (gl_lo a1) ^^^ gl_lo b1))), (9, .int (nI (gf_mul h (gl_lo a1) ^^^ gl_lo b1))), (8, .int (nI (gl_lo b1))), (7, .int (nI (gl_lo a1))), (6, .int c1), (5, .int b1), (4, .int a1), (0, .ref b), (1, .ref x0), (3, .int (nI (4 * i)))]) hx hb dL_law_277 hl (by decide) rfl (fun ls hl => ?_)
          refine lv_goto (tgt := 298) hx hb dL_law_279 (by decide) ?_
          exact hm ls H locs ⟨gf_mul h (gl_lo a1) ^^^ gl_lo b1, (nI (gf_mul h (gl_lo a1) ^^^ gl_lo b1)), gf_x_lt (gf_lt _ _) hq8, lv_sub hl [8, 9, 1, 10, 2, 0] rfl, hP, hD, hS⟩
        · refine lv_tableOut (tgt := 282) hx hb dL_law_69 (by decide +kernel) (by decide) ?_
          refine lv_aload_n hx hb dL_law_282 rfl (lv_at hl 6 rfl) ?_
          refine lv_iload hx hb dL_law_283 (lv_at hl 4 rfl) ?_
          refine gl_call (W.runV (As := [.int a1]) (rest := []) ⟨hx, hb, hml, hown, hts⟩ (met_bpower l dC dI x0 h hh a1) (cwV 1 hts (lw_V q64 q65 q66 q1 q67) rfl rfl rfl (by decide +kernel) ⟨Nat.le_of_ble_eq_true rfl, Nat.le_of_ble_eq_true rfl⟩) ⟨fun a U g mk q => ⟨q.1, q.2.1, va_K.moved (u := U) (U := U.calling g mk a) (Vm.Alike.refl U.vm) q.2.2⟩, va_recv hK hP (ci := 0) (q0 := 0) rfl rfl, fun U hU hW => ⟨rfl, by rw [hU]; exact hP.sub [0] rfl, va_K.moved hW.alike (hK.sub (tys' := []) [] rfl)⟩⟩ rfl rfl hl.1 rfl (lv_room (Nat.le_of_ble_eq_true rfl)) dL_law_285 ⟨Nat.le_of_ble_eq_true rfl, Nat.le_of_ble_eq_true rfl⟩) ?_
          refine lv_istore (lv' := [(9, .int (nI (gf_pow h (gl_lo a1)))), (8, .int (nI (gl_lo b1))), (7, .int (nI (gl_lo a1))), (6, .int c1), (5, .int b1), (4, .int a1), (0, .ref b), (1, .ref x0), (2, .int (nI h)), (3, .int (nI (4 * i)))]) hx hb dL_law_288 hl (by decide) rfl (fun ls hl => ?_)
          refine lv_iload_n hx hb dL_law_290 rfl (lv_at hl 8 rfl) ?_
          refine lv_iload hx hb dL_law_291 (lv_at hl 2 rfl) ?_
          refine gl_call (W.runS (As := [.int (nI h), .int (nI (gl_lo a1))]) (rest := []) ⟨hx, hb, hml, hown, hts⟩ (met_lpower l h (gl_lo a1) hh hp8) (va_cwS 2 hts (lw_S q77 q78 q0 q79) rfl rfl rfl (by decide +kernel) ⟨Nat.le_of_ble_eq_true rfl, Nat.le_of_ble_eq_true rfl⟩) preEq rfl rfl hl.1 rfl (lv_room (Nat.le_of_ble_eq_true rfl)) dL_law_293 ⟨Nat.le_of_ble_eq_true rfl, Nat.le_of_ble_eq_true rfl⟩) ?_
          refine lv_istore (lv' := [(10, .int (nI (gf_pow h (gl_lo a1)))), (9, .int (nI (gf_pow h (gl_lo a1)))), (8, .int (nI (gl_lo b1))), (7, .int (nI (gl_lo a1))), (6, .int c1), (5, .int b1), (4, .int a1), (0, .ref b), (1, .ref x0), (2, .int (nI h)), (3, .int (nI (4 * i)))]) hx hb dL_law_296 hl (by decide) rfl (fun ls hl => ?_)
          exact hm ls H locs ⟨h, (nI (gf_pow h (gl_lo a1))), hh, lv_sub hl [7, 8, 9, 10, 1, 0] rfl, hP, hD, hS⟩
  · intro ls lv H locs hl hI
    obtain ⟨h, hh, rfl, hP, hD, hS⟩ := hI
    have hl : lv_has ls 11 [(0, .ref b), (1, .ref x0), (2, .int (nI h)), (3, .int (nI (4 * 24)))] := hl
    refine lv_iload_n hx hb dL_law_12 rfl (lv_at hl 3 rfl) ?_
    refine lv_bipush (v := nI 96) hx hb dL_law_13 (by decide) ?_
    refine lv_icmp_ge (tgt := 313) hx hb dL_law_15 (by decide) (fun c_15 => ?_) (fun c_15 => ?_)
    · refine lv_aload_n hx hb dL_law_313 rfl (lv_at hl 1 rfl) ?_
      refine lv_iconst (v := nI 1) hx hb dL_law_314 (by decide) ?_
      refine gl_call (W.runV (As := [.int (nI 1)]) (rest := []) ⟨hx, hb, hml, hown, hts⟩ (met_bpowerN l dC dI x0 h 1 hh (by decide)) (cwV 1 hts (lw_V q64 q65 q66 q1 q67) rfl rfl rfl (by decide +kernel) ⟨Nat.le_of_ble_eq_true rfl, Nat.le_of_ble_eq_true rfl⟩) ⟨fun a U g mk q => ⟨q.1, q.2.1, va_K.moved (u := U) (U := U.calling g mk a) (Vm.Alike.refl U.vm) q.2.2⟩, va_recv hK hP (ci := 0) (q0 := 0) rfl rfl, fun U hU hW => ⟨rfl, by rw [hU]; exact hP.sub [0] rfl, va_K.moved hW.alike (hK.sub (tys' := []) [] rfl)⟩⟩ rfl rfl hl.1 rfl (lv_room (Nat.le_of_ble_eq_true rfl)) dL_law_315 ⟨Nat.le_of_ble_eq_true rfl, Nat.le_of_ble_eq_true rfl⟩) ?_
      refine gl_to (y := nI h) (by rw [gf_pow_1 hh]) ?_
      refine lv_iload_n hx hb dL_law_318 rfl (lv_at hl 2 rfl) ?_
      refine lv_icmp_ne (tgt := 368) hx hb dL_law_319 (by decide) (fun c_319 => ?_) (fun c_319 => ?_)
      · exact absurd rfl c_319
      · refine lv_aload_n hx hb dL_law_322 rfl (lv_at hl 1 rfl) ?_
        refine lv_iconst (v := nI 0) hx hb dL_law_323 (by decide) ?_
        refine gl_call (W.runV (As := [.int (nI 0)]) (rest := []) ⟨hx, hb, hml, hown, hts⟩ (met_bpowerN l dC dI x0 h 0 hh (by decide)) (cwV 1 hts (lw_V q64 q65 q66 q1 q67) rfl rfl rfl (by decide +kernel) ⟨Nat.le_of_ble_eq_true rfl, Nat.le_of_ble_eq_true rfl⟩) ⟨fun a U g mk q => ⟨q.1, q.2.1, va_K.moved (u := U) (U := U.calling g mk a) (Vm.Alike.refl U.vm) q.2.2⟩, va_recv hK hP (ci := 0) (q0 := 0) rfl rfl, fun U hU hW => ⟨rfl, by rw [hU]; exact hP.sub [0] rfl, va_K.moved hW.alike (hK.sub (tys' := []) [] rfl)⟩⟩ rfl rfl hl.1 rfl (lv_room (Nat.le_of_ble_eq_true rfl)) dL_law_324 ⟨Nat.le_of_ble_eq_true rfl, Nat.le_of_ble_eq_true rfl⟩) ?_
        refine lv_iconst (v := nI 1) hx hb dL_law_327 (by decide) ?_
        refine lv_icmp_ne (tgt := 368) hx hb dL_law_328 (by decide) (fun c_328 => ?_) (fun c_328 => ?_)
        · exact absurd rfl c_328
        · refine lv_aload_n hx hb dL_law_331 rfl (lv_at hl 1 rfl) ?_
          refine lv_aload_n hx hb dL_law_332 rfl (lv_at hl 0 rfl) ?_
          refine lv_iconst (v := nI 2) hx hb dL_law_333 (by decide) ?_
          refine gl_call (W.runS (As := [.ref b, .int (nI 2)]) (rest := [.ref x0]) ⟨hx, hb, hml, hown, hts⟩ (met_cell l b L xs hL 2 (by omega)) (va_cwS 2 hts (lw_S q68 q69 q0 q70) rfl rfl rfl (by decide +kernel) ⟨Nat.le_of_ble_eq_true rfl, Nat.le_of_ble_eq_true rfl⟩) ⟨fun a U g mk q => ⟨q.1, va_X.moved (u := U) (U := U.calling g mk a) (Vm.Alike.refl U.vm) q.2⟩, fun U hU hW => ⟨rfl, by show va_X b L xs U U.heap; rw [hU]; exact va_X.moved hW.alike (hX.kept (hS.2.1 _ hbl hbA))⟩⟩ rfl rfl hl.1 rfl (lv_room (Nat.le_of_ble_eq_true rfl)) dL_law_334 ⟨Nat.le_of_ble_eq_true rfl, Nat.le_of_ble_eq_true rfl⟩) ?_
          refine lv_sipush (v := nI 255) hx hb dL_law_337 (by decide) ?_
          refine lv_iand hx hb dL_law_340 ?_
          refine gl_to (y := nI (gl_lo (gl_cell L xs 2))) (gl_and _) ?_
          refine lv_aload_n hx hb dL_law_341 rfl (lv_at hl 0 rfl) ?_
          refine lv_iconst (v := nI 3) hx hb dL_law_342 (by decide) ?_
          refine gl_call (W.runS (As := [.ref b, .int (nI 3)]) (rest := [.int (nI (gl_lo (gl_cell L xs 2))), .ref x0]) ⟨hx, hb, hml, hown, hts⟩ (met_cell l b L xs hL 3 (by omega)) (va_cwS 2 hts (lw_S q68 q69 q0 q70) rfl rfl rfl (by decide +kernel) ⟨Nat.le_of_ble_eq_true rfl, Nat.le_of_ble_eq_true rfl⟩) ⟨fun a U g mk q => ⟨q.1, va_X.moved (u := U) (U := U.calling g mk a) (Vm.Alike.refl U.vm) q.2⟩, fun U hU hW => ⟨rfl, by show va_X b L xs U U.heap; rw [hU]; exact va_X.moved hW.alike (hX.kept (hS.2.1 _ hbl hbA))⟩⟩ rfl rfl hl.1 rfl (lv_room (Nat.le_of_ble_eq_true rfl)) dL_law_343 ⟨Nat.le_of_ble_eq_true rfl, Nat.le_of_ble_eq_true rfl⟩) ?_
          refine lv_sipush (v := nI 255) hx hb dL_law_346 (by decide) ?_
          refine lv_iand hx hb dL_law_349 ?_
          refine gl_to (y := nI (gl_lo (gl_cell L xs 3))) (gl_and _) ?_
          have hb2 := gl_lo_lt (gl_cell L xs 2)
          have hb3 := gl_lo_lt (gl_cell L xs 3)
          generalize gl_lo (gl_cell L xs 2) = b2 at hb2 ⊢
          generalize gl_lo (gl_cell L xs 3) = b3 at hb3 ⊢
          have hPc := hP.sub (ws' := [(x0, .inr (0, [.int (nI h)]))]) [0] rfl
          have hDc := hD.sub (ws' := [(x0, .inr (0, [.int (nI h)]))]) [0] (by decide) rfl
          have hKc := hK.sub (tys' := []) [] rfl
          have hFc := va_free (wc := [(x0, .inr (0, [.int (nI h)]))]) hD hS hA [0] rfl
          refine va_calli (va_runS (As := [.ref x0, .int (nI b2), .int (nI b3)]) (rest := []) ⟨hx, hb, hml, hown, hts⟩ (met_field l dC dI x0 H.size (nI h) b2 b3 hb2 hb3) (va_cwS 3 hts (lw_S q80 q81 q0 q82) rfl rfl rfl (by decide +kernel) ⟨Nat.le_of_ble_eq_true rfl, Nat.le_of_ble_eq_true rfl⟩) ⟨fun a U g mk q => by obtain ⟨q0, q1, qP, qK, qD⟩ := q; exact ⟨q0, q1, qP, va_K.moved (u := U) (U := U.calling g mk a) (Vm.Alike.refl U.vm) qK, qD⟩, fun U hU hW => ⟨rfl, by rw [hU], by rw [hU]; exact hPc, va_K.moved hW.alike hKc, hDc.weaken (fun _ _ _ _ => trivial)⟩⟩ rfl rfl hl.1 rfl (lv_room (Nat.le_of_ble_eq_true rfl)) dL_law_350 ⟨Nat.le_of_ble_eq_true rfl, Nat.le_of_ble_eq_true rfl⟩) hS (fun q _ h => hFc q h) hFc (fun r_ f2 t H1 locs ht hvm hw hB hz1 hk1 hS => ?_)
          have hw : r_ = nI 1 := hw
          subst hw
          obtain ⟨hP1, hK1, hD1⟩ := hB
          rw [ht] at hP1
          obtain ⟨hP, hD⟩ := va_join (wr := []) (w1 := [(x0, .inr (0, [.int f2]))]) hP hD [0] [] rfl rfl (by decide) (by decide) hk1 hFc hP1 hD1
          generalize H1 = H at hP hS ⊢
          have hP : va_P (dC, dI) vwCl [(x0, .inr (0, [.int f2]))] H := hP
          have hD : va_D A [(x0, .inr (0, [.int f2]))] := hD
          refine lv_if_eq (tgt := 368) hx hb dL_law_353 (by decide) (fun c_353 => ?_) (fun c_353 => ?_)
          · exact absurd c_353 (by decide +kernel)
          · refine lv_aload_n hx hb dL_law_356 rfl (lv_at hl 1 rfl) ?_
            refine lv_aload_n hx hb dL_law_357 rfl (lv_at hl 0 rfl) ?_
            have hPc := hP.sub (ws' := [(x0, .inr (0, [.int f2]))]) [0] rfl
            have hDc := hD.sub (ws' := [(x0, .inr (0, [.int f2]))]) [0] (by decide) rfl
            have hKc := hK.sub (tys' := []) [] rfl
            have hFc := va_free (wc := [(x0, .inr (0, [.int f2]))]) hD hS hA [0] rfl
            have hx0 : A x0 := hD.2 0 (x0, .inr (0, [.int f2])) rfl
            have hxb : b ≠ x0 := fun h => hbA (by rw [h]; exact hx0)
            refine va_calli (va_runS (As := [.ref x0, .ref b]) (rest := []) ⟨hx, hb, hml, hown, hts⟩ (met_roots l dC dI x0 H.size f2 b L xs hL (Nat.lt_of_lt_of_le hbl hS.1) hxb) (va_cwS 2 hts (lw_S q84 q85 q0 q86) rfl rfl rfl (by decide +kernel) ⟨Nat.le_of_ble_eq_true rfl, Nat.le_of_ble_eq_true rfl⟩) ⟨fun a U g mk q => by obtain ⟨q0, q1, qP, qK, qD, qX⟩ := q; exact ⟨q0, q1, qP, va_K.moved (u := U) (U := U.calling g mk a) (Vm.Alike.refl U.vm) qK, qD, va_X.moved (u := U) (U := U.calling g mk a) (Vm.Alike.refl U.vm) qX⟩, fun U hU hW => ⟨rfl, by rw [hU], by rw [hU]; exact hPc, va_K.moved hW.alike hKc, hDc.weaken (fun _ _ _ _ => trivial), by rw [hU]; exact va_X.moved hW.alike (hX.kept (hS.2.1 _ hbl hbA))⟩⟩ rfl rfl hl.1 rfl (lv_room (Nat.le_of_ble_eq_true rfl)) dL_law_358 ⟨Nat.le_of_ble_eq_true rfl, Nat.le_of_ble_eq_true rfl⟩) hS (fun q _ h => hFc q h) hFc (fun r_ f3 t H1 locs ht hvm hw hB hz1 hk1 hS => ?_)
            have hw : r_ = nI 1 := hw
            subst hw
            generalize H1 = H at hS ⊢
            refine lv_if_eq (tgt := 368) hx hb dL_law_361 (by decide) (fun c_361 => ?_) (fun c_361 => ?_)
            · exact absurd c_361 (by decide +kernel)
            · refine lv_iconst (v := nI 1) hx hb dL_law_364 (by decide) ?_
              refine lv_goto (tgt := 369) hx hb dL_law_365 (by decide) ?_
              refine gl_to (y := 1) (by decide +kernel) ?_
              refine va_forget (fun q hq => hA2 _ (hS.2.2 q hq)) ?_
              refine W.widen (k := 1200000) (n := 5502250) (Nat.le_of_ble_eq_true rfl) (Nat.le_of_ble_eq_true rfl) ?_
              exact lw_ret hx hb hr hlocks dL_law_369
    · exact absurd (nI_le (a := 96) (b := 96) (Nat.le_refl 96) (by decide)) c_15
end
section
-- ===== YOUR PART ENDS =====
set_option maxHeartbeats 4000000 in
theorem lw_walk (l : Launch) (hflags : l.flags = flags0) (b : Addr) (xs : List Int32) : MetFree l x (headSpec (Jvm.Cond.code x code maxLocals ret :: tables_1) room_1) (lw_P b xs) (fun _ _ _ _ _ => True) lw_Q := by
  refine MetFree.of_bodyS (code := code) (maxLocals := maxLocals) (ret := ret) (by decide) ?_ ?_
  · intro args s m h hn
    obtain ⟨meth, c, h1, h2, h3, h4, h5, h6, -, -⟩ := Cond.code_spec hn (atoms_spec (ws := Jvm.Cond.code x code maxLocals ret :: tables_1) h _ List.mem_cons_self)
    exact ⟨meth, c, h1, h2, h3, h4, h5, h6⟩
  · intro p e s m args below meth c s₁ B hml0 hP _
    obtain ⟨rfl, hx, hbd, hgv⟩ := hP
    obtain ⟨scr, harrAt, hlist, hof, hsmall⟩ := hx
    obtain ⟨hcb, hkn, -, -⟩ := State.arrayAt?_spec harrAt
    have hown : s.vm.findClass R_law = some m.cls := findClass_of_methodNamed B.named
    have hts0 : ∀ c ∈ (Jvm.Cond.code x code maxLocals ret :: tables_1), c.before #[Value.ref b] s = true := atoms_spec (ws := Jvm.Cond.code x code maxLocals ret :: tables_1) B.pre
    have hts : ∀ w ∈ lw_tbl, w.before #[Value.ref b] s = true := k2_hts_sels lw_privs (fun w hw => hts0 w (List.mem_cons_of_mem _ hw)) lw_privs_ok
    have hml : c.maxLocals = 11 := B.maxLocals_eq (hts0 _ List.mem_cons_self)
    have X₀ : Stand p l e room_1 s m #[Value.ref b] below meth c s₁ [] 0 0 := Stand.of_body B
    have hh0 : s₁.heap = s.heap := by rw [B.state]; rfl
    have hsz : scr.slots.size = xs.length := by rw [← Array.length_toList, hlist, List.length_map]
    have hval : ∀ j : Nat, j < xs.length → scr.slots[j]? = some (.int (xs.getD j 0)) := fun j hj => by
      rw [← Array.getElem?_toList, hlist]
      simp [hj]
    have hbl : b < s.heap.size := (Array.getElem?_eq_some_iff.mp hcb).1
    have hX : va_X b xs.length (fun j => xs.getD j 0) s s.heap := ⟨scr, hcb, hof, hkn, hsz, hval⟩
    have K : W p l e room_1 s m #[Value.ref b] below meth c s₁.heap [] 0 0 (lw_Z below #[Value.ref b] s) (entryFrame m ([Value.ref b] : List Value).toArray 11) := by
      rw [hh0]
      exact whole_start l hflags hbd ⟨B.exec, B.bytes, B.returns, hml, hown, hts, hX, hbl, B.notSynchronized, hgv⟩
    obtain ⟨t, a1, o, b1, b2, b3⟩ := K s₁ rfl X₀
    exact ⟨t, o, a1, b1, b2, b3⟩
theorem lw_pre_spec {args : Array Value} {s : State} (h : (Jvm.Cond.and given_1 narrow_1).before args s = true) (hr : rest_1_c.before args s = true) : ∃ (b : Addr) (xs : List Int32), lw_P b xs args s := by
  have hs := flat_of_before _ h
  have hq := flat_of_before _ hr
  have hc : (Cond.count 1).before args s = true := hs _ (by decide +kernel)
  have harr : (Cond.arrayOf (.arg 0) .int).before args s = true := hs _ (by decide +kernel)
  have hle : (Cond.le (.length (.arg 0)) (.int 96)).before args s = true := hs _ (by decide +kernel)
  have hlen : (Cond.isInt (.length (.arg 0))).before args s = true := hq _ (by decide +kernel)
  have hall : (Cond.all (.arg 0) (.isInt (.elem (.arg 0) (.index 0)))).before args s = true := hq _ (by decide +kernel)
  obtain ⟨b, xs, hb, hx⟩ := State.ints_of_pre rfl harr hlen hall
  have hsm : xs.length < 2 ^ 31 := hx.choose_spec.2.2.2
  have hev : (Term.length (.arg 0)).eval args s none [] s = some (.int xs.length.toInt32) := hx.length_eval hb
  have hv := Cond.le_ints hev (show (Term.int 96).eval args s none [] s = some (.int 96) from rfl)
  have hd : xs.length.toInt32 ≤ 96 := by
    simpa [Cond.before, Cond.holds, hv] using hle
  have hN : xs.length ≤ 96 := (Int32.ofNat_le_ofNat hsm (by decide)).mp (show Int32.ofNat xs.length ≤ Int32.ofNat 96 from hd)
  exact ⟨b, xs, Cond.one_arg hc (show args[0]? = some (.ref b) from hb), hx, hN, h⟩
theorem lw_comes (l : Launch) (hflags : l.flags = flags0) : Comes l x (Jvm.Cond.code x code maxLocals ret :: tables_1) room_1 (fun tb e args s => Calls_1 tb e args s ∧ rest_1 tb e args s ∧ Pre_1 tb e args s)
    (fun _ _ args s o t => lw_Q args s o t) := by
  intro p e ha hc hk s m args below hf hfit hheap happ hpre
  obtain ⟨b, xs, hP⟩ := lw_pre_spec hpre.2.2 hpre.2.1
  obtain ⟨k, o, h1, h2, h3, hQ⟩ := lw_walk l hflags b xs p e ha hc hk s m args below hf ((Spec.applies_iff_loose hf).mp happ).1 hP trivial
  exact ⟨k, o, h1, h2, h3, hQ⟩
theorem lw_frame {s t : State} {o : Outcome} {args : Array Value} (h : Framed s o t [] 1200000 5502250) :
    Framed s o t (fieldLocs frame_1_writes args s ++ arrayLocs frame_1_arrays args s ++ staticLocs frame_1_statics s) 1200000 5502250 := h
theorem lw_limb (L : Cond) (hL : ∀ (args : Array Value) (s t : State), L.after args s (.returned (some (.int 1))) t = true) :
    ArmFor flags0 classFile x code maxLocals ret World_1 tables_1 room_1 Calls_1 rest_1 Pre_1
      (fun tb e a s o t => postC L tb e a s o t ∧ Framed s o t (fieldLocs frame_1_writes a s ++ arrayLocs frame_1_arrays a s ++ staticLocs frame_1_statics s) 1200000 5502250) := by
  intro l hflags _ _ p e ha hc hk s m args below hf hfit hheap happ hpre
  obtain ⟨k, o, h1, h2, h3, rfl, hF⟩ := lw_comes l hflags p e ha hc hk s m args below hf hfit hheap happ hpre
  exact ⟨k, _, h1, h2, h3, hL args s _, lw_frame hF⟩
theorem i_vc : Claimed_1_1 ∧ Claimed_1_2 := ⟨lw_limb limb_1_1 (fun args s t => by simp [limb_1_1, Cond.after, Cond.holds, Cond.value]), lw_limb limb_1_2 (fun args s t => Cond.after_iff.mpr (by
  first | (rw [show limb_1_2 = Cond.eq .result (.int 1) from rfl, Cond.eq_ints (x := 1) (y := 1) rfl rfl]; simp; done) | (simp [limb_1_2, Cond.value, Term.eval]; done)))⟩
end
