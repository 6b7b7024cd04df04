section
-- ===== PART A: goes FIRST, ahead of the names: the tables' words, and 'selects' of the private methods out of them =====
/-- a private method of a class that the tables say can be made, by its rows of tables_1 -/
def lw_okq (q : MethodName × Nat) : Prop := (q.1.cls ≠ "java/lang/invoke/MethodHandle" ∧ q.1.cls ≠ "java/lang/invoke/VarHandle") ∧ Cond.instantiable q.1.cls q.2 ∈ tables_1 ∧ Cond.privateMethod q.1 ∈ tables_1 ∧ Cond.instanceMethod q.1 ∈ tables_1
set_option maxRecDepth 100000
theorem lw_p0 : lw_okq (⟨"BitReader", "word", "(II)V"⟩, 3) := ⟨⟨by decide +kernel, by decide +kernel⟩, List.mem_of_getElem? (i := 15) rfl, List.mem_of_getElem? (i := 57) rfl, List.mem_of_getElem? (i := 58) rfl⟩
theorem lw_p1 : lw_okq (⟨"java/lang/Throwable", "fillInStackTrace", "(I)Ljava/lang/Throwable;"⟩, 6) := ⟨⟨by decide +kernel, by decide +kernel⟩, List.mem_of_getElem? (i := 115) rfl, List.mem_of_getElem? (i := 113) rfl, List.mem_of_getElem? (i := 114) rfl⟩
theorem lw_p2 : lw_okq (⟨"BitReader", "from", "(I)I"⟩, 3) := ⟨⟨by decide +kernel, by decide +kernel⟩, List.mem_of_getElem? (i := 15) rfl, List.mem_of_getElem? (i := 189) rfl, List.mem_of_getElem? (i := 190) rfl⟩
def lw_privs_1 : List (MethodName × Nat) := [(⟨"BitReader", "word", "(II)V"⟩, 3), (⟨"java/lang/Throwable", "fillInStackTrace", "(I)Ljava/lang/Throwable;"⟩, 6), (⟨"BitReader", "from", "(I)I"⟩, 3)]
theorem lw_r1 : ∀ q ∈ lw_privs_1, lw_okq q := List.forall_mem_cons.mpr ⟨lw_p0, List.forall_mem_cons.mpr ⟨lw_p1, List.forall_mem_cons.mpr ⟨lw_p2, fun _ h => absurd h List.not_mem_nil⟩⟩⟩
def lw_privs : List (MethodName × Nat) := lw_privs_1
def lw_tbl : List Cond := k2_sels lw_privs ++ tables_1
theorem lw_privs_ok : ∀ q ∈ lw_privs, lw_okq q := lw_r1
-- ===== ONE list of words for every method: the tables' words that hold all through a run =====
def lw_all : List Cond := lw_tbl.filter goodWord
/-- a word of the tables by its place: claim/WORDS.tsv -/
theorem lw_w {w : Cond} (i : Nat) (h : lw_tbl[i]? = some w) (g : goodWord w = true) : w ∈ lw_all := List.mem_filter.mpr ⟨List.mem_of_getElem? h, g⟩
theorem lw_all_tbl {w : Cond} (h : w ∈ lw_all) : w ∈ lw_tbl := (List.mem_filter.mp h).1
theorem lw_self : GoodIn lw_all lw_all := fun w h => ⟨h, good_of_word (List.mem_filter.mp h).2⟩
/-- a class's field words, by their places -/
theorem lw_in (ws : List Cond) (ps : List Nat) (hp : ws = ps.filterMap (fun i => lw_tbl[i]?)) (hg : ws.all goodWord = true) : ∀ w ∈ ws, w ∈ lw_all := by
  intro w h
  have h1 := List.all_eq_true.mp hg w h
  rw [hp] at h
  obtain ⟨i, -, hi⟩ := List.mem_filterMap.mp h
  exact lw_w i hi h1
/-- the words of a contract for the method y with code b, L locals, answer r -/
abbrev ws_ (y : MethodName) (b : ByteArray) (L : Nat) (r : Option FieldType) : List Cond := Cond.code y b L r :: lw_all
theorem lw_meth {y : MethodName} {b : ByteArray} {L : Nat} {r : Option FieldType} (h : Cond.code y b L r ∈ lw_all) : GoodIn lw_all (ws_ y b L r) := by
  intro w hw
  rcases List.mem_cons.mp hw with e | e
  · rw [e]
    exact lw_self _ h
  · exact lw_self _ e
theorem lw_app {a c : List Cond} (ha : ∀ w ∈ a, w ∈ lw_all) (hc : GoodIn lw_all c) : GoodIn lw_all (a ++ c) := by
  intro w hw
  rcases List.mem_append.mp hw with e | e
  · exact lw_self w (ha w e)
  · exact hc w e
/-- what a call through an object asks: cwV n hts (lw_V ..) -/
theorem lw_V {own : String} {idx : Nat} {C : String} {y : MethodName} {b : ByteArray} {L : Nat} {r : Option FieldType} (h1 : Cond.methodLink own idx y ∈ lw_all) (h2 : Cond.instanceMethod y ∈ lw_all) (h3 : Cond.selects C y y ∈ lw_all) (h4 : Cond.initialized C ∈ lw_all) (h5 : Cond.code y b L r ∈ lw_all) : GoodIn lw_all (wsV own idx C y (ws_ y b L r)) := by
  refine lw_app ?_ (lw_meth h5)
  intro w hw
  simp only [List.mem_cons, List.not_mem_nil, or_false] at hw
  rcases hw with e | e | e | e
  · rw [e]; exact h1
  · rw [e]; exact h2
  · rw [e]; exact h3
  · rw [e]; exact h4
/-- what a static call asks: va_cwS n hts (lw_S ..) -/
theorem lw_S {own : String} {idx : Nat} {y : MethodName} {b : ByteArray} {L : Nat} {r : Option FieldType} (h1 : Cond.methodLink own idx y ∈ lw_all) (h2 : Cond.static y ∈ lw_all) (h3 : Cond.initialized y.cls ∈ lw_all) (h4 : Cond.code y b L r ∈ lw_all) : GoodIn lw_all (va_wsS own idx y (ws_ y b L r)) := by
  refine lw_app ?_ (lw_meth h4)
  intro w hw
  simp only [List.mem_cons, List.not_mem_nil, or_false] at hw
  rcases hw with e | e | e
  · rw [e]; exact h1
  · rw [e]; exact h2
  · rw [e]; exact h3
/-- the words of a contract for a method WITH HANDLERS (hh: its table) -/
abbrev wsW_ (y : MethodName) (b : ByteArray) (L : Nat) (r : Option FieldType) (hh : List (Nat × Nat × Nat × Nat)) : List Cond := Cond.codeWith y b L r hh :: lw_all
theorem lw_methW {y : MethodName} {b : ByteArray} {L : Nat} {r : Option FieldType} {hh : List (Nat × Nat × Nat × Nat)} (h : Cond.codeWith y b L r hh ∈ lw_all) : GoodIn lw_all (wsW_ y b L r hh) := by
  intro w hw
  rcases List.mem_cons.mp hw with e | e
  · rw [e]
    exact lw_self _ h
  · exact lw_self _ e
/-- any list of words by their places (lw_in), good -/
theorem lw_good {ws : List Cond} (h : ∀ w ∈ ws, w ∈ lw_all) : GoodIn lw_all ws := fun w hw => lw_self w (h w hw)
/-- what a call of a method with handlers asks: vx_cwVW n hts (lw_VW ..), vx_cwSW n hts (lw_SW ..) -/
theorem lw_VW {own : String} {idx : Nat} {C : String} {y : MethodName} {b : ByteArray} {L : Nat} {r : Option FieldType} {hh : List (Nat × Nat × Nat × Nat)} (h1 : Cond.methodLink own idx y ∈ lw_all) (h2 : Cond.instanceMethod y ∈ lw_all) (h3 : Cond.selects C y y ∈ lw_all) (h4 : Cond.initialized C ∈ lw_all) (h5 : Cond.codeWith y b L r hh ∈ lw_all) : GoodIn lw_all (wsV own idx C y (wsW_ y b L r hh)) := by
  refine lw_app ?_ (lw_methW h5)
  intro w hw
  simp only [List.mem_cons, List.not_mem_nil, or_false] at hw
  rcases hw with e | e | e | e
  · rw [e]; exact h1
  · rw [e]; exact h2
  · rw [e]; exact h3
  · rw [e]; exact h4
theorem lw_SW {own : String} {idx : Nat} {y : MethodName} {b : ByteArray} {L : Nat} {r : Option FieldType} {hh : List (Nat × Nat × Nat × Nat)} (h1 : Cond.methodLink own idx y ∈ lw_all) (h2 : Cond.static y ∈ lw_all) (h3 : Cond.initialized y.cls ∈ lw_all) (h4 : Cond.codeWith y b L r hh ∈ lw_all) : GoodIn lw_all (va_wsS own idx y (wsW_ y b L r hh)) := by
  refine lw_app ?_ (lw_methW h4)
  intro w hw
  simp only [List.mem_cons, List.not_mem_nil, or_false] at hw
  rcases hw with e | e | e
  · rw [e]; exact h1
  · rw [e]; exact h2
  · rw [e]; exact h3
/-- a word by its place in its run of the tables -/
theorem lw_at {r : List Cond} (hr : ∀ w ∈ r, w ∈ lw_tbl) {w : Cond} (i : Nat) (h : r[i]? = some w) : w ∈ lw_tbl := hr w (List.mem_of_getElem? h)
theorem lw_g {w : Cond} (h : w ∈ lw_tbl) (g : goodWord w = true) : w ∈ lw_all := List.mem_filter.mpr ⟨h, g⟩
theorem lw_ms : ∀ w ∈ k2_sels lw_privs, w ∈ lw_tbl := fun w h => show w ∈ k2_sels lw_privs ++ tables_1 from List.mem_append_left _ h
theorem lw_m0 : ∀ w ∈ tables_1, w ∈ lw_tbl := fun w h => show w ∈ k2_sels lw_privs ++ tables_1 from List.mem_append_right (k2_sels lw_privs) h
theorem qs0 : (Cond.selects "BitReader" ⟨"BitReader", "word", "(II)V"⟩ ⟨"BitReader", "word", "(II)V"⟩) ∈ lw_all := lw_g (lw_at lw_ms 0 rfl) rfl
theorem qs1 : (Cond.selects "java/lang/Throwable" ⟨"java/lang/Throwable", "fillInStackTrace", "(I)Ljava/lang/Throwable;"⟩ ⟨"java/lang/Throwable", "fillInStackTrace", "(I)Ljava/lang/Throwable;"⟩) ∈ lw_all := lw_g (lw_at lw_ms 1 rfl) rfl
theorem qs2 : (Cond.selects "BitReader" ⟨"BitReader", "from", "(I)I"⟩ ⟨"BitReader", "from", "(I)I"⟩) ∈ lw_all := lw_g (lw_at lw_ms 2 rfl) rfl
end
section
/-! DECODE ROWS BY BYTES: one lemma an opcode; a method's code is cut into short pieces once, and a row reads its own piece alone. -/
set_option maxRecDepth 100000
/-- the code has just these bytes from pc on -/
def DkAt (code : ByteArray) (pc : Nat) (bs : List UInt8) : Prop := ∀ (j : Nat) (b : UInt8), bs[j]? = some b → code.data.toList[pc + j]? = some b
/-- the piece W has the bytes bs from its place j on -/
def dkIn (W : List UInt8) (j : Nat) (bs : List UInt8) : Bool := decide ((W.drop j).take bs.length = bs)
theorem dk_seg {l W T : List UInt8} {o o2 : Nat} (h : l.drop o = W ++ T) (n : Nat) (hn : W.length = n) (ho : o + n = o2) : l.drop o2 = T := by
  subst ho
  rw [← List.drop_drop, h, List.drop_left' hn]
theorem dk_at {code : ByteArray} {W T bs : List UInt8} {o pc : Nat} (h : code.data.toList.drop o = W ++ T) (j : Nat) (hp : o + j = pc) (hw : dkIn W j bs = true) : DkAt code pc bs := by
  subst hp
  intro i b e
  have h1 := of_decide_eq_true hw
  have h2 : i < bs.length := (List.getElem?_eq_some_iff.mp e).1
  have h3 : W[j + i]? = some b := by
    rw [← h1, List.getElem?_take, if_pos h2, List.getElem?_drop] at e
    exact e
  have h4 : j + i < W.length := (List.getElem?_eq_some_iff.mp h3).1
  have h5 : (code.data.toList.drop o)[j + i]? = some b := by
    rw [h, List.getElem?_append_left h4]
    exact h3
  rw [List.getElem?_drop, ← Nat.add_assoc] at h5
  exact h5
theorem dk_u1 {A : ByteArray} {p : Nat} {b : UInt8} (h : A.data.toList[p]? = some b) : (Reader.u1 : Reader DecodeError Nat) A p = .ok (b.toNat, p + 1) := by
  obtain ⟨h1, h2⟩ := List.getElem?_eq_some_iff.mp h
  have h3 : p < A.size := by simpa using h1
  have h4 : A[p]'h3 = b := h2
  have e : (Reader.u1 : Reader DecodeError Nat) A p = (if h : p < A.size then .ok (A[p].toNat, p + 1) else .error (HasTruncated.truncated p)) := by
    show (do if h : p < A.size then do set (p + 1); Pure.pure A[p].toNat else MonadExcept.throw (HasTruncated.truncated p) : Reader DecodeError Nat) A p = _
    by_cases hi : p < A.size
    · rw [dif_pos hi, dif_pos hi]; rfl
    · rw [dif_neg hi, dif_neg hi]; rfl
  rw [e, dif_pos h3, h4]
theorem dk_bind {α β : Type} {r : Reader DecodeError α} {f : α → Reader DecodeError β} {A : ByteArray} {p s : Nat} {a : α} (h : r A p = .ok (a, s)) : (r >>= f) A p = f a A s := by
  show (do let (a, s) ← r A p; f a A s : Except DecodeError (β × Nat)) = _
  rw [h]
  rfl
theorem dk_map {α β : Type} {r : Reader DecodeError α} {g : α → β} {A : ByteArray} {p s : Nat} {a : α} (h : r A p = .ok (a, s)) : (g <$> r) A p = .ok (g a, s) := by
  show (do let (a, s) ← r A p; .ok (g a, s) : Except DecodeError (β × Nat)) = _
  rw [h]
  rfl
theorem dk_u2 {A : ByteArray} {p : Nat} {a b : UInt8} (h : A.data.toList[p]? = some a) (h2 : A.data.toList[p + 1]? = some b) : (Reader.u2 : Reader DecodeError Nat) A p = .ok (a.toNat * 256 + b.toNat, p + 2) := by
  show (Reader.u1 >>= fun hi => Reader.u1 >>= fun lo => Pure.pure (hi * 256 + lo) : Reader DecodeError Nat) A p = _
  rw [dk_bind (dk_u1 h), dk_bind (dk_u1 h2)]
  rfl
theorem dk_of {code : ByteArray} {pc n : Nat} {i : Instr} (h : Decoder.instr pc code pc = .ok (i, pc + n)) : decode code pc = .ok (i, n) := by
  have e : decode code pc = (match Decoder.instr pc code pc with | .error x => .error x | .ok (j, s) => .ok (j, s - pc)) := by
    show (do let (j, s) ← Decoder.instr pc code pc; Pure.pure (j, s - pc) : Except DecodeError (Instr × Nat)) = _
    cases Decoder.instr pc code pc <;> rfl
  rw [e, h]
  show Except.ok (i, pc + n - pc) = _
  rw [Nat.add_sub_cancel_left]
theorem dk_2 {code : ByteArray} {pc : Nat} (h : DkAt code pc [2]) : decode code pc = .ok (.iconst (-1), 1) := dk_of ((dk_bind (dk_u1 (h 0 _ rfl))).trans rfl)
theorem dk_3 {code : ByteArray} {pc : Nat} (h : DkAt code pc [3]) : decode code pc = .ok (.iconst 0, 1) := dk_of ((dk_bind (dk_u1 (h 0 _ rfl))).trans rfl)
theorem dk_4 {code : ByteArray} {pc : Nat} (h : DkAt code pc [4]) : decode code pc = .ok (.iconst 1, 1) := dk_of ((dk_bind (dk_u1 (h 0 _ rfl))).trans rfl)
theorem dk_5 {code : ByteArray} {pc : Nat} (h : DkAt code pc [5]) : decode code pc = .ok (.iconst 2, 1) := dk_of ((dk_bind (dk_u1 (h 0 _ rfl))).trans rfl)
theorem dk_6 {code : ByteArray} {pc : Nat} (h : DkAt code pc [6]) : decode code pc = .ok (.iconst 3, 1) := dk_of ((dk_bind (dk_u1 (h 0 _ rfl))).trans rfl)
theorem dk_7 {code : ByteArray} {pc : Nat} (h : DkAt code pc [7]) : decode code pc = .ok (.iconst 4, 1) := dk_of ((dk_bind (dk_u1 (h 0 _ rfl))).trans rfl)
theorem dk_9 {code : ByteArray} {pc : Nat} (h : DkAt code pc [9]) : decode code pc = .ok (.lconst 0, 1) := dk_of ((dk_bind (dk_u1 (h 0 _ rfl))).trans rfl)
theorem dk_16 {code : ByteArray} {pc : Nat} (a : UInt8) (h : DkAt code pc [16, a]) : decode code pc = .ok (.bipush (Reader.signed 8 a.toNat), 2) := dk_of ((dk_bind (dk_u1 (h 0 _ rfl))).trans ((dk_bind (dk_map (dk_u1 (h 1 _ rfl)))).trans rfl))
theorem dk_17 {code : ByteArray} {pc : Nat} (a b : UInt8) (h : DkAt code pc [17, a, b]) : decode code pc = .ok (.sipush (Reader.signed 16 (a.toNat * 256 + b.toNat)), 3) := dk_of ((dk_bind (dk_u1 (h 0 _ rfl))).trans ((dk_bind (dk_map (dk_u2 (h 1 _ rfl) (h 2 _ rfl)))).trans rfl))
theorem dk_18 {code : ByteArray} {pc : Nat} (a : UInt8) (h : DkAt code pc [18, a]) : decode code pc = .ok (.ldc a.toNat, 2) := dk_of ((dk_bind (dk_u1 (h 0 _ rfl))).trans ((dk_bind (dk_u1 (h 1 _ rfl))).trans rfl))
theorem dk_20 {code : ByteArray} {pc : Nat} (a b : UInt8) (h : DkAt code pc [20, a, b]) : decode code pc = .ok (.ldc2_w (a.toNat * 256 + b.toNat), 3) := dk_of ((dk_bind (dk_u1 (h 0 _ rfl))).trans ((dk_bind (dk_u2 (h 1 _ rfl) (h 2 _ rfl))).trans rfl))
theorem dk_21 {code : ByteArray} {pc : Nat} (a : UInt8) (h : DkAt code pc [21, a]) : decode code pc = .ok (.iload a.toNat, 2) := dk_of ((dk_bind (dk_u1 (h 0 _ rfl))).trans ((dk_bind (dk_u1 (h 1 _ rfl))).trans rfl))
theorem dk_22 {code : ByteArray} {pc : Nat} (a : UInt8) (h : DkAt code pc [22, a]) : decode code pc = .ok (.lload a.toNat, 2) := dk_of ((dk_bind (dk_u1 (h 0 _ rfl))).trans ((dk_bind (dk_u1 (h 1 _ rfl))).trans rfl))
theorem dk_26 {code : ByteArray} {pc : Nat} (h : DkAt code pc [26]) : decode code pc = .ok (.iload_n 0, 1) := dk_of ((dk_bind (dk_u1 (h 0 _ rfl))).trans rfl)
theorem dk_27 {code : ByteArray} {pc : Nat} (h : DkAt code pc [27]) : decode code pc = .ok (.iload_n 1, 1) := dk_of ((dk_bind (dk_u1 (h 0 _ rfl))).trans rfl)
theorem dk_28 {code : ByteArray} {pc : Nat} (h : DkAt code pc [28]) : decode code pc = .ok (.iload_n 2, 1) := dk_of ((dk_bind (dk_u1 (h 0 _ rfl))).trans rfl)
theorem dk_29 {code : ByteArray} {pc : Nat} (h : DkAt code pc [29]) : decode code pc = .ok (.iload_n 3, 1) := dk_of ((dk_bind (dk_u1 (h 0 _ rfl))).trans rfl)
theorem dk_42 {code : ByteArray} {pc : Nat} (h : DkAt code pc [42]) : decode code pc = .ok (.aload_n 0, 1) := dk_of ((dk_bind (dk_u1 (h 0 _ rfl))).trans rfl)
theorem dk_43 {code : ByteArray} {pc : Nat} (h : DkAt code pc [43]) : decode code pc = .ok (.aload_n 1, 1) := dk_of ((dk_bind (dk_u1 (h 0 _ rfl))).trans rfl)
theorem dk_44 {code : ByteArray} {pc : Nat} (h : DkAt code pc [44]) : decode code pc = .ok (.aload_n 2, 1) := dk_of ((dk_bind (dk_u1 (h 0 _ rfl))).trans rfl)
theorem dk_46 {code : ByteArray} {pc : Nat} (h : DkAt code pc [46]) : decode code pc = .ok (.iaload, 1) := dk_of ((dk_bind (dk_u1 (h 0 _ rfl))).trans rfl)
theorem dk_51 {code : ByteArray} {pc : Nat} (h : DkAt code pc [51]) : decode code pc = .ok (.baload, 1) := dk_of ((dk_bind (dk_u1 (h 0 _ rfl))).trans rfl)
theorem dk_54 {code : ByteArray} {pc : Nat} (a : UInt8) (h : DkAt code pc [54, a]) : decode code pc = .ok (.istore a.toNat, 2) := dk_of ((dk_bind (dk_u1 (h 0 _ rfl))).trans ((dk_bind (dk_u1 (h 1 _ rfl))).trans rfl))
theorem dk_55 {code : ByteArray} {pc : Nat} (a : UInt8) (h : DkAt code pc [55, a]) : decode code pc = .ok (.lstore a.toNat, 2) := dk_of ((dk_bind (dk_u1 (h 0 _ rfl))).trans ((dk_bind (dk_u1 (h 1 _ rfl))).trans rfl))
theorem dk_60 {code : ByteArray} {pc : Nat} (h : DkAt code pc [60]) : decode code pc = .ok (.istore_n 1, 1) := dk_of ((dk_bind (dk_u1 (h 0 _ rfl))).trans rfl)
theorem dk_61 {code : ByteArray} {pc : Nat} (h : DkAt code pc [61]) : decode code pc = .ok (.istore_n 2, 1) := dk_of ((dk_bind (dk_u1 (h 0 _ rfl))).trans rfl)
theorem dk_62 {code : ByteArray} {pc : Nat} (h : DkAt code pc [62]) : decode code pc = .ok (.istore_n 3, 1) := dk_of ((dk_bind (dk_u1 (h 0 _ rfl))).trans rfl)
theorem dk_75 {code : ByteArray} {pc : Nat} (h : DkAt code pc [75]) : decode code pc = .ok (.astore_n 0, 1) := dk_of ((dk_bind (dk_u1 (h 0 _ rfl))).trans rfl)
theorem dk_76 {code : ByteArray} {pc : Nat} (h : DkAt code pc [76]) : decode code pc = .ok (.astore_n 1, 1) := dk_of ((dk_bind (dk_u1 (h 0 _ rfl))).trans rfl)
theorem dk_77 {code : ByteArray} {pc : Nat} (h : DkAt code pc [77]) : decode code pc = .ok (.astore_n 2, 1) := dk_of ((dk_bind (dk_u1 (h 0 _ rfl))).trans rfl)
theorem dk_84 {code : ByteArray} {pc : Nat} (h : DkAt code pc [84]) : decode code pc = .ok (.bastore, 1) := dk_of ((dk_bind (dk_u1 (h 0 _ rfl))).trans rfl)
theorem dk_87 {code : ByteArray} {pc : Nat} (h : DkAt code pc [87]) : decode code pc = .ok (.pop, 1) := dk_of ((dk_bind (dk_u1 (h 0 _ rfl))).trans rfl)
theorem dk_88 {code : ByteArray} {pc : Nat} (h : DkAt code pc [88]) : decode code pc = .ok (.pop2, 1) := dk_of ((dk_bind (dk_u1 (h 0 _ rfl))).trans rfl)
theorem dk_89 {code : ByteArray} {pc : Nat} (h : DkAt code pc [89]) : decode code pc = .ok (.dup, 1) := dk_of ((dk_bind (dk_u1 (h 0 _ rfl))).trans rfl)
theorem dk_96 {code : ByteArray} {pc : Nat} (h : DkAt code pc [96]) : decode code pc = .ok (.iadd, 1) := dk_of ((dk_bind (dk_u1 (h 0 _ rfl))).trans rfl)
theorem dk_100 {code : ByteArray} {pc : Nat} (h : DkAt code pc [100]) : decode code pc = .ok (.isub, 1) := dk_of ((dk_bind (dk_u1 (h 0 _ rfl))).trans rfl)
theorem dk_104 {code : ByteArray} {pc : Nat} (h : DkAt code pc [104]) : decode code pc = .ok (.imul, 1) := dk_of ((dk_bind (dk_u1 (h 0 _ rfl))).trans rfl)
theorem dk_108 {code : ByteArray} {pc : Nat} (h : DkAt code pc [108]) : decode code pc = .ok (.idiv, 1) := dk_of ((dk_bind (dk_u1 (h 0 _ rfl))).trans rfl)
theorem dk_112 {code : ByteArray} {pc : Nat} (h : DkAt code pc [112]) : decode code pc = .ok (.irem, 1) := dk_of ((dk_bind (dk_u1 (h 0 _ rfl))).trans rfl)
theorem dk_120 {code : ByteArray} {pc : Nat} (h : DkAt code pc [120]) : decode code pc = .ok (.ishl, 1) := dk_of ((dk_bind (dk_u1 (h 0 _ rfl))).trans rfl)
theorem dk_121 {code : ByteArray} {pc : Nat} (h : DkAt code pc [121]) : decode code pc = .ok (.lshl, 1) := dk_of ((dk_bind (dk_u1 (h 0 _ rfl))).trans rfl)
theorem dk_122 {code : ByteArray} {pc : Nat} (h : DkAt code pc [122]) : decode code pc = .ok (.ishr, 1) := dk_of ((dk_bind (dk_u1 (h 0 _ rfl))).trans rfl)
theorem dk_124 {code : ByteArray} {pc : Nat} (h : DkAt code pc [124]) : decode code pc = .ok (.iushr, 1) := dk_of ((dk_bind (dk_u1 (h 0 _ rfl))).trans rfl)
theorem dk_126 {code : ByteArray} {pc : Nat} (h : DkAt code pc [126]) : decode code pc = .ok (.iand, 1) := dk_of ((dk_bind (dk_u1 (h 0 _ rfl))).trans rfl)
theorem dk_127 {code : ByteArray} {pc : Nat} (h : DkAt code pc [127]) : decode code pc = .ok (.land, 1) := dk_of ((dk_bind (dk_u1 (h 0 _ rfl))).trans rfl)
theorem dk_128 {code : ByteArray} {pc : Nat} (h : DkAt code pc [128]) : decode code pc = .ok (.ior, 1) := dk_of ((dk_bind (dk_u1 (h 0 _ rfl))).trans rfl)
theorem dk_129 {code : ByteArray} {pc : Nat} (h : DkAt code pc [129]) : decode code pc = .ok (.lor, 1) := dk_of ((dk_bind (dk_u1 (h 0 _ rfl))).trans rfl)
theorem dk_132 {code : ByteArray} {pc : Nat} (a b : UInt8) (h : DkAt code pc [132, a, b]) : decode code pc = .ok (.iinc a.toNat (Reader.signed 8 b.toNat), 3) := dk_of ((dk_bind (dk_u1 (h 0 _ rfl))).trans ((dk_bind (dk_u1 (h 1 _ rfl))).trans ((dk_bind (dk_map (dk_u1 (h 2 _ rfl)))).trans rfl)))
theorem dk_133 {code : ByteArray} {pc : Nat} (h : DkAt code pc [133]) : decode code pc = .ok (.i2l, 1) := dk_of ((dk_bind (dk_u1 (h 0 _ rfl))).trans rfl)
theorem dk_136 {code : ByteArray} {pc : Nat} (h : DkAt code pc [136]) : decode code pc = .ok (.l2i, 1) := dk_of ((dk_bind (dk_u1 (h 0 _ rfl))).trans rfl)
theorem dk_145 {code : ByteArray} {pc : Nat} (h : DkAt code pc [145]) : decode code pc = .ok (.i2b, 1) := dk_of ((dk_bind (dk_u1 (h 0 _ rfl))).trans rfl)
theorem dk_148 {code : ByteArray} {pc : Nat} (h : DkAt code pc [148]) : decode code pc = .ok (.lcmp, 1) := dk_of ((dk_bind (dk_u1 (h 0 _ rfl))).trans rfl)
theorem dk_153 {code : ByteArray} {pc : Nat} (a b : UInt8) (h : DkAt code pc [153, a, b]) : decode code pc = .ok (.ifCond .eq (Reader.signed 16 (a.toNat * 256 + b.toNat)), 3) := dk_of ((dk_bind (dk_u1 (h 0 _ rfl))).trans ((dk_bind (dk_map (dk_u2 (h 1 _ rfl) (h 2 _ rfl)))).trans rfl))
theorem dk_154 {code : ByteArray} {pc : Nat} (a b : UInt8) (h : DkAt code pc [154, a, b]) : decode code pc = .ok (.ifCond .ne (Reader.signed 16 (a.toNat * 256 + b.toNat)), 3) := dk_of ((dk_bind (dk_u1 (h 0 _ rfl))).trans ((dk_bind (dk_map (dk_u2 (h 1 _ rfl) (h 2 _ rfl)))).trans rfl))
theorem dk_158 {code : ByteArray} {pc : Nat} (a b : UInt8) (h : DkAt code pc [158, a, b]) : decode code pc = .ok (.ifCond .le (Reader.signed 16 (a.toNat * 256 + b.toNat)), 3) := dk_of ((dk_bind (dk_u1 (h 0 _ rfl))).trans ((dk_bind (dk_map (dk_u2 (h 1 _ rfl) (h 2 _ rfl)))).trans rfl))
theorem dk_159 {code : ByteArray} {pc : Nat} (a b : UInt8) (h : DkAt code pc [159, a, b]) : decode code pc = .ok (.if_icmp .eq (Reader.signed 16 (a.toNat * 256 + b.toNat)), 3) := dk_of ((dk_bind (dk_u1 (h 0 _ rfl))).trans ((dk_bind (dk_map (dk_u2 (h 1 _ rfl) (h 2 _ rfl)))).trans rfl))
theorem dk_160 {code : ByteArray} {pc : Nat} (a b : UInt8) (h : DkAt code pc [160, a, b]) : decode code pc = .ok (.if_icmp .ne (Reader.signed 16 (a.toNat * 256 + b.toNat)), 3) := dk_of ((dk_bind (dk_u1 (h 0 _ rfl))).trans ((dk_bind (dk_map (dk_u2 (h 1 _ rfl) (h 2 _ rfl)))).trans rfl))
theorem dk_161 {code : ByteArray} {pc : Nat} (a b : UInt8) (h : DkAt code pc [161, a, b]) : decode code pc = .ok (.if_icmp .lt (Reader.signed 16 (a.toNat * 256 + b.toNat)), 3) := dk_of ((dk_bind (dk_u1 (h 0 _ rfl))).trans ((dk_bind (dk_map (dk_u2 (h 1 _ rfl) (h 2 _ rfl)))).trans rfl))
theorem dk_162 {code : ByteArray} {pc : Nat} (a b : UInt8) (h : DkAt code pc [162, a, b]) : decode code pc = .ok (.if_icmp .ge (Reader.signed 16 (a.toNat * 256 + b.toNat)), 3) := dk_of ((dk_bind (dk_u1 (h 0 _ rfl))).trans ((dk_bind (dk_map (dk_u2 (h 1 _ rfl) (h 2 _ rfl)))).trans rfl))
theorem dk_163 {code : ByteArray} {pc : Nat} (a b : UInt8) (h : DkAt code pc [163, a, b]) : decode code pc = .ok (.if_icmp .gt (Reader.signed 16 (a.toNat * 256 + b.toNat)), 3) := dk_of ((dk_bind (dk_u1 (h 0 _ rfl))).trans ((dk_bind (dk_map (dk_u2 (h 1 _ rfl) (h 2 _ rfl)))).trans rfl))
theorem dk_164 {code : ByteArray} {pc : Nat} (a b : UInt8) (h : DkAt code pc [164, a, b]) : decode code pc = .ok (.if_icmp .le (Reader.signed 16 (a.toNat * 256 + b.toNat)), 3) := dk_of ((dk_bind (dk_u1 (h 0 _ rfl))).trans ((dk_bind (dk_map (dk_u2 (h 1 _ rfl) (h 2 _ rfl)))).trans rfl))
theorem dk_167 {code : ByteArray} {pc : Nat} (a b : UInt8) (h : DkAt code pc [167, a, b]) : decode code pc = .ok (.goto (Reader.signed 16 (a.toNat * 256 + b.toNat)), 3) := dk_of ((dk_bind (dk_u1 (h 0 _ rfl))).trans ((dk_bind (dk_map (dk_u2 (h 1 _ rfl) (h 2 _ rfl)))).trans rfl))
theorem dk_172 {code : ByteArray} {pc : Nat} (h : DkAt code pc [172]) : decode code pc = .ok (.ireturn, 1) := dk_of ((dk_bind (dk_u1 (h 0 _ rfl))).trans rfl)
theorem dk_173 {code : ByteArray} {pc : Nat} (h : DkAt code pc [173]) : decode code pc = .ok (.lreturn, 1) := dk_of ((dk_bind (dk_u1 (h 0 _ rfl))).trans rfl)
theorem dk_176 {code : ByteArray} {pc : Nat} (h : DkAt code pc [176]) : decode code pc = .ok (.areturn, 1) := dk_of ((dk_bind (dk_u1 (h 0 _ rfl))).trans rfl)
theorem dk_177 {code : ByteArray} {pc : Nat} (h : DkAt code pc [177]) : decode code pc = .ok (.return_, 1) := dk_of ((dk_bind (dk_u1 (h 0 _ rfl))).trans rfl)
theorem dk_178 {code : ByteArray} {pc : Nat} (a b : UInt8) (h : DkAt code pc [178, a, b]) : decode code pc = .ok (.getstatic (a.toNat * 256 + b.toNat), 3) := dk_of ((dk_bind (dk_u1 (h 0 _ rfl))).trans ((dk_bind (dk_u2 (h 1 _ rfl) (h 2 _ rfl))).trans rfl))
theorem dk_180 {code : ByteArray} {pc : Nat} (a b : UInt8) (h : DkAt code pc [180, a, b]) : decode code pc = .ok (.getfield (a.toNat * 256 + b.toNat), 3) := dk_of ((dk_bind (dk_u1 (h 0 _ rfl))).trans ((dk_bind (dk_u2 (h 1 _ rfl) (h 2 _ rfl))).trans rfl))
theorem dk_181 {code : ByteArray} {pc : Nat} (a b : UInt8) (h : DkAt code pc [181, a, b]) : decode code pc = .ok (.putfield (a.toNat * 256 + b.toNat), 3) := dk_of ((dk_bind (dk_u1 (h 0 _ rfl))).trans ((dk_bind (dk_u2 (h 1 _ rfl) (h 2 _ rfl))).trans rfl))
theorem dk_182 {code : ByteArray} {pc : Nat} (a b : UInt8) (h : DkAt code pc [182, a, b]) : decode code pc = .ok (.invokevirtual (a.toNat * 256 + b.toNat), 3) := dk_of ((dk_bind (dk_u1 (h 0 _ rfl))).trans ((dk_bind (dk_u2 (h 1 _ rfl) (h 2 _ rfl))).trans rfl))
theorem dk_183 {code : ByteArray} {pc : Nat} (a b : UInt8) (h : DkAt code pc [183, a, b]) : decode code pc = .ok (.invokespecial (a.toNat * 256 + b.toNat), 3) := dk_of ((dk_bind (dk_u1 (h 0 _ rfl))).trans ((dk_bind (dk_u2 (h 1 _ rfl) (h 2 _ rfl))).trans rfl))
theorem dk_184 {code : ByteArray} {pc : Nat} (a b : UInt8) (h : DkAt code pc [184, a, b]) : decode code pc = .ok (.invokestatic (a.toNat * 256 + b.toNat), 3) := dk_of ((dk_bind (dk_u1 (h 0 _ rfl))).trans ((dk_bind (dk_u2 (h 1 _ rfl) (h 2 _ rfl))).trans rfl))
theorem dk_187 {code : ByteArray} {pc : Nat} (a b : UInt8) (h : DkAt code pc [187, a, b]) : decode code pc = .ok (.new (a.toNat * 256 + b.toNat), 3) := dk_of ((dk_bind (dk_u1 (h 0 _ rfl))).trans ((dk_bind (dk_u2 (h 1 _ rfl) (h 2 _ rfl))).trans rfl))
theorem dk_188_8 {code : ByteArray} {pc : Nat} (h : DkAt code pc [188, 8]) : decode code pc = .ok (.newarray .byte, 2) := dk_of ((dk_bind (dk_u1 (h 0 _ rfl))).trans ((dk_bind (dk_u1 (h 1 _ rfl))).trans rfl))
theorem dk_190 {code : ByteArray} {pc : Nat} (h : DkAt code pc [190]) : decode code pc = .ok (.arraylength, 1) := dk_of ((dk_bind (dk_u1 (h 0 _ rfl))).trans rfl)
theorem dk_191 {code : ByteArray} {pc : Nat} (h : DkAt code pc [191]) : decode code pc = .ok (.athrow, 1) := dk_of ((dk_bind (dk_u1 (h 0 _ rfl))).trans rfl)
/-! java/lang/Object -/
set_option maxRecDepth 100000
def RJ5 : String := "java/lang/Object"
abbrev cJ5_init : ByteArray := object_method_1_code
def yJ5_init : MethodName := ⟨RJ5, "<init>", "()V"⟩
theorem dJ5_init_0 : decode cJ5_init 0 = .ok (.return_, 1) := by decide +kernel
theorem q23 : (Jvm.Cond.instanceMethod ({ cls := "java/lang/Object", name := "<init>", desc := "()V" } : Jvm.MethodName)) ∈ lw_all := lw_g (lw_at lw_m0 20 rfl) rfl
theorem q24 : (Jvm.Cond.code ({ cls := "java/lang/Object", name := "<init>", desc := "()V" } : Jvm.MethodName) object_method_1_code (1 : Nat) (Option.none : Option Jvm.ClassFile.FieldType)) ∈ lw_all := lw_g (lw_at lw_m0 21 rfl) rfl
/-! java/lang/Math -/
set_option maxRecDepth 100000
def RJ4 : String := "java/lang/Math"
abbrev cJ4_min : ByteArray := prog_6_method_69_code
def yJ4_min : MethodName := ⟨RJ4, "min", "(II)I"⟩
def dkwJ4_min_0 : List UInt8 := [26, 27, 163, 0, 7, 26, 167, 0, 4, 27, 172]
abbrev dktJ4_min_0 : List UInt8 := dkwJ4_min_0 ++ []
theorem dksJ4_min_0 : cJ4_min.data.toList.drop 0 = dktJ4_min_0 := by decide +kernel
theorem dJ4_min_0 : decode cJ4_min 0 = .ok (.iload_n 0, 1) := dk_26 (dk_at dksJ4_min_0 0 rfl rfl)
theorem dJ4_min_1 : decode cJ4_min 1 = .ok (.iload_n 1, 1) := dk_27 (dk_at dksJ4_min_0 1 rfl rfl)
theorem dJ4_min_2 : decode cJ4_min 2 = .ok (.if_icmp .gt 7, 3) := dk_163 0 7 (dk_at dksJ4_min_0 2 rfl rfl)
theorem dJ4_min_5 : decode cJ4_min 5 = .ok (.iload_n 0, 1) := dk_26 (dk_at dksJ4_min_0 5 rfl rfl)
theorem dJ4_min_6 : decode cJ4_min 6 = .ok (.goto 4, 3) := dk_167 0 4 (dk_at dksJ4_min_0 6 rfl rfl)
theorem dJ4_min_9 : decode cJ4_min 9 = .ok (.iload_n 1, 1) := dk_27 (dk_at dksJ4_min_0 9 rfl rfl)
theorem dJ4_min_10 : decode cJ4_min 10 = .ok (.ireturn, 1) := dk_172 (dk_at dksJ4_min_0 10 rfl rfl)
theorem q10 : (Jvm.Cond.initialized "java/lang/Math") ∈ lw_all := lw_g (lw_at lw_m0 7 rfl) rfl
theorem q147 : (Jvm.Cond.static ({ cls := "java/lang/Math", name := "min", desc := "(II)I" } : Jvm.MethodName)) ∈ lw_all := lw_g (lw_at lw_m0 144 rfl) rfl
theorem q148 : (Jvm.Cond.code ({ cls := "java/lang/Math", name := "min", desc := "(II)I" } : Jvm.MethodName) prog_6_method_69_code (2 : Nat) (Option.some Jvm.ClassFile.FieldType.int)) ∈ lw_all := lw_g (lw_at lw_m0 145 rfl) rfl
/-! BitSource -/
set_option maxRecDepth 100000
def RX2 : String := "BitSource"
def TX2 : u_T := fun k => match k with
  | 0 => ("BitSource", "bytes", "[B", true)
  | 1 => ("BitSource", "byteOffset", "I", false)
  | _ => ("BitSource", "bitOffset", "I", false)
def tyX2 : Nat → FieldType := fun k => match k with
  | 0 => .array .byte
  | 1 => .int
  | _ => .int
abbrev wsX20 : List Cond := u_ws RX2 TX2 3
theorem nmX2 : ∀ a, a < 3 → ∀ b, b < 3 → a ≠ b → (TX2 a).2.1 ≠ (TX2 b).2.1 := by decide +kernel
theorem tyX2_ok : ∀ k, k < 3 → parseFieldDescriptor (TX2 k).2.2.1 = some (tyX2 k) := by decide +kernel
abbrev cX2_init : ByteArray := prog_3_method_1_code
def yX2_init : MethodName := ⟨RX2, "<init>", "([B)V"⟩
def dkwX2_init_0 : List UInt8 := [42, 183, 0, 1, 42, 43, 181, 0, 7, 177]
abbrev dktX2_init_0 : List UInt8 := dkwX2_init_0 ++ []
theorem dksX2_init_0 : cX2_init.data.toList.drop 0 = dktX2_init_0 := by decide +kernel
theorem dX2_init_0 : decode cX2_init 0 = .ok (.aload_n 0, 1) := dk_42 (dk_at dksX2_init_0 0 rfl rfl)
theorem dX2_init_1 : decode cX2_init 1 = .ok (.invokespecial 1, 3) := dk_183 0 1 (dk_at dksX2_init_0 1 rfl rfl)
theorem dX2_init_4 : decode cX2_init 4 = .ok (.aload_n 0, 1) := dk_42 (dk_at dksX2_init_0 4 rfl rfl)
theorem dX2_init_5 : decode cX2_init 5 = .ok (.aload_n 1, 1) := dk_43 (dk_at dksX2_init_0 5 rfl rfl)
theorem dX2_init_6 : decode cX2_init 6 = .ok (.putfield 7, 3) := dk_181 0 7 (dk_at dksX2_init_0 6 rfl rfl)
theorem dX2_init_9 : decode cX2_init 9 = .ok (.return_, 1) := dk_177 (dk_at dksX2_init_0 9 rfl rfl)
abbrev cX2_available : ByteArray := prog_3_method_5_code
def yX2_available : MethodName := ⟨RX2, "available", "()I"⟩
def dkwX2_available_0 : List UInt8 := [16, 8, 42, 180, 0, 7, 190, 42, 180, 0, 17, 100, 104, 42, 180, 0, 13, 100, 172]
abbrev dktX2_available_0 : List UInt8 := dkwX2_available_0 ++ []
theorem dksX2_available_0 : cX2_available.data.toList.drop 0 = dktX2_available_0 := by decide +kernel
theorem dX2_available_0 : decode cX2_available 0 = .ok (.bipush 8, 2) := dk_16 8 (dk_at dksX2_available_0 0 rfl rfl)
theorem dX2_available_2 : decode cX2_available 2 = .ok (.aload_n 0, 1) := dk_42 (dk_at dksX2_available_0 2 rfl rfl)
theorem dX2_available_3 : decode cX2_available 3 = .ok (.getfield 7, 3) := dk_180 0 7 (dk_at dksX2_available_0 3 rfl rfl)
theorem dX2_available_6 : decode cX2_available 6 = .ok (.arraylength, 1) := dk_190 (dk_at dksX2_available_0 6 rfl rfl)
theorem dX2_available_7 : decode cX2_available 7 = .ok (.aload_n 0, 1) := dk_42 (dk_at dksX2_available_0 7 rfl rfl)
theorem dX2_available_8 : decode cX2_available 8 = .ok (.getfield 17, 3) := dk_180 0 17 (dk_at dksX2_available_0 8 rfl rfl)
theorem dX2_available_11 : decode cX2_available 11 = .ok (.isub, 1) := dk_100 (dk_at dksX2_available_0 11 rfl rfl)
theorem dX2_available_12 : decode cX2_available 12 = .ok (.imul, 1) := dk_104 (dk_at dksX2_available_0 12 rfl rfl)
theorem dX2_available_13 : decode cX2_available 13 = .ok (.aload_n 0, 1) := dk_42 (dk_at dksX2_available_0 13 rfl rfl)
theorem dX2_available_14 : decode cX2_available 14 = .ok (.getfield 13, 3) := dk_180 0 13 (dk_at dksX2_available_0 14 rfl rfl)
theorem dX2_available_17 : decode cX2_available 17 = .ok (.isub, 1) := dk_100 (dk_at dksX2_available_0 17 rfl rfl)
theorem dX2_available_18 : decode cX2_available 18 = .ok (.ireturn, 1) := dk_172 (dk_at dksX2_available_0 18 rfl rfl)
abbrev cX2_readBits : ByteArray := prog_3_method_4_code
def yX2_readBits : MethodName := ⟨RX2, "readBits", "(I)I"⟩
def dkwX2_readBits_9 : List UInt8 := [180, 0, 13, 27, 96, 181, 0, 13, 28, 172]
abbrev dktX2_readBits_9 : List UInt8 := dkwX2_readBits_9 ++ []
def dkwX2_readBits_8 : List UInt8 := [120, 54, 4, 28, 27, 120, 42, 180, 0, 7, 42, 180, 0, 17, 51, 21, 4, 126, 29, 122, 128, 61, 42, 89]
abbrev dktX2_readBits_8 : List UInt8 := dkwX2_readBits_8 ++ dktX2_readBits_9
def dkwX2_readBits_7 : List UInt8 := [181, 0, 17, 132, 1, 248, 167, 255, 218, 27, 158, 0, 46, 16, 8, 27, 100, 62, 17, 0, 255, 29, 122, 29]
abbrev dktX2_readBits_7 : List UInt8 := dkwX2_readBits_7 ++ dktX2_readBits_8
def dkwX2_readBits_6 : List UInt8 := [42, 180, 0, 7, 42, 180, 0, 17, 51, 17, 0, 255, 126, 128, 61, 42, 89, 180, 0, 17, 4, 96]
abbrev dktX2_readBits_6 : List UInt8 := dkwX2_readBits_6 ++ dktX2_readBits_7
def dkwX2_readBits_5 : List UInt8 := [42, 89, 180, 0, 17, 4, 96, 181, 0, 17, 27, 158, 0, 91, 27, 16, 8, 161, 0, 38, 28, 16, 8, 120]
abbrev dktX2_readBits_5 : List UInt8 := dkwX2_readBits_5 ++ dktX2_readBits_6
def dkwX2_readBits_4 : List UInt8 := [89, 180, 0, 13, 21, 4, 96, 181, 0, 13, 42, 180, 0, 13, 16, 8, 160, 0, 18, 42, 3, 181, 0, 13]
abbrev dktX2_readBits_4 : List UInt8 := dkwX2_readBits_4 ++ dktX2_readBits_5
def dkwX2_readBits_3 : List UInt8 := [54, 6, 42, 180, 0, 7, 42, 180, 0, 17, 51, 21, 6, 126, 21, 5, 122, 61, 27, 21, 4, 100, 60, 42]
abbrev dktX2_readBits_3 : List UInt8 := dkwX2_readBits_3 ++ dktX2_readBits_4
def dkwX2_readBits_2 : List UInt8 := [29, 184, 0, 31, 54, 4, 29, 21, 4, 100, 54, 5, 17, 0, 255, 16, 8, 21, 4, 100, 122, 21, 5, 120]
abbrev dktX2_readBits_2 : List UInt8 := dkwX2_readBits_2 ++ dktX2_readBits_3
def dkwX2_readBits_1 : List UInt8 := [18, 26, 183, 0, 28, 191, 3, 61, 42, 180, 0, 13, 158, 0, 94, 16, 8, 42, 180, 0, 13, 100, 62, 27]
abbrev dktX2_readBits_1 : List UInt8 := dkwX2_readBits_1 ++ dktX2_readBits_2
def dkwX2_readBits_0 : List UInt8 := [27, 4, 161, 0, 17, 27, 16, 32, 163, 0, 11, 27, 42, 182, 0, 20, 164, 0, 13, 187, 0, 24, 89]
abbrev dktX2_readBits_0 : List UInt8 := dkwX2_readBits_0 ++ dktX2_readBits_1
theorem dksX2_readBits_0 : cX2_readBits.data.toList.drop 0 = dktX2_readBits_0 := by decide +kernel
theorem dksX2_readBits_1 : cX2_readBits.data.toList.drop 23 = dktX2_readBits_1 := dk_seg dksX2_readBits_0 23 rfl rfl
theorem dksX2_readBits_2 : cX2_readBits.data.toList.drop 47 = dktX2_readBits_2 := dk_seg dksX2_readBits_1 24 rfl rfl
theorem dksX2_readBits_3 : cX2_readBits.data.toList.drop 71 = dktX2_readBits_3 := dk_seg dksX2_readBits_2 24 rfl rfl
theorem dksX2_readBits_4 : cX2_readBits.data.toList.drop 95 = dktX2_readBits_4 := dk_seg dksX2_readBits_3 24 rfl rfl
theorem dksX2_readBits_5 : cX2_readBits.data.toList.drop 119 = dktX2_readBits_5 := dk_seg dksX2_readBits_4 24 rfl rfl
theorem dksX2_readBits_6 : cX2_readBits.data.toList.drop 143 = dktX2_readBits_6 := dk_seg dksX2_readBits_5 24 rfl rfl
theorem dksX2_readBits_7 : cX2_readBits.data.toList.drop 165 = dktX2_readBits_7 := dk_seg dksX2_readBits_6 22 rfl rfl
theorem dksX2_readBits_8 : cX2_readBits.data.toList.drop 189 = dktX2_readBits_8 := dk_seg dksX2_readBits_7 24 rfl rfl
theorem dksX2_readBits_9 : cX2_readBits.data.toList.drop 213 = dktX2_readBits_9 := dk_seg dksX2_readBits_8 24 rfl rfl
theorem dX2_readBits_0 : decode cX2_readBits 0 = .ok (.iload_n 1, 1) := dk_27 (dk_at dksX2_readBits_0 0 rfl rfl)
theorem dX2_readBits_1 : decode cX2_readBits 1 = .ok (.iconst 1, 1) := dk_4 (dk_at dksX2_readBits_0 1 rfl rfl)
theorem dX2_readBits_2 : decode cX2_readBits 2 = .ok (.if_icmp .lt 17, 3) := dk_161 0 17 (dk_at dksX2_readBits_0 2 rfl rfl)
theorem dX2_readBits_5 : decode cX2_readBits 5 = .ok (.iload_n 1, 1) := dk_27 (dk_at dksX2_readBits_0 5 rfl rfl)
theorem dX2_readBits_6 : decode cX2_readBits 6 = .ok (.bipush 32, 2) := dk_16 32 (dk_at dksX2_readBits_0 6 rfl rfl)
theorem dX2_readBits_8 : decode cX2_readBits 8 = .ok (.if_icmp .gt 11, 3) := dk_163 0 11 (dk_at dksX2_readBits_0 8 rfl rfl)
theorem dX2_readBits_11 : decode cX2_readBits 11 = .ok (.iload_n 1, 1) := dk_27 (dk_at dksX2_readBits_0 11 rfl rfl)
theorem dX2_readBits_12 : decode cX2_readBits 12 = .ok (.aload_n 0, 1) := dk_42 (dk_at dksX2_readBits_0 12 rfl rfl)
theorem dX2_readBits_13 : decode cX2_readBits 13 = .ok (.invokevirtual 20, 3) := dk_182 0 20 (dk_at dksX2_readBits_0 13 rfl rfl)
theorem dX2_readBits_16 : decode cX2_readBits 16 = .ok (.if_icmp .le 13, 3) := dk_164 0 13 (dk_at dksX2_readBits_0 16 rfl rfl)
theorem dX2_readBits_19 : decode cX2_readBits 19 = .ok (.new 24, 3) := dk_187 0 24 (dk_at dksX2_readBits_0 19 rfl rfl)
theorem dX2_readBits_22 : decode cX2_readBits 22 = .ok (.dup, 1) := dk_89 (dk_at dksX2_readBits_0 22 rfl rfl)
theorem dX2_readBits_23 : decode cX2_readBits 23 = .ok (.ldc 26, 2) := dk_18 26 (dk_at dksX2_readBits_1 0 rfl rfl)
theorem dX2_readBits_25 : decode cX2_readBits 25 = .ok (.invokespecial 28, 3) := dk_183 0 28 (dk_at dksX2_readBits_1 2 rfl rfl)
theorem dX2_readBits_28 : decode cX2_readBits 28 = .ok (.athrow, 1) := dk_191 (dk_at dksX2_readBits_1 5 rfl rfl)
theorem dX2_readBits_29 : decode cX2_readBits 29 = .ok (.iconst 0, 1) := dk_3 (dk_at dksX2_readBits_1 6 rfl rfl)
theorem dX2_readBits_30 : decode cX2_readBits 30 = .ok (.istore_n 2, 1) := dk_61 (dk_at dksX2_readBits_1 7 rfl rfl)
theorem dX2_readBits_31 : decode cX2_readBits 31 = .ok (.aload_n 0, 1) := dk_42 (dk_at dksX2_readBits_1 8 rfl rfl)
theorem dX2_readBits_32 : decode cX2_readBits 32 = .ok (.getfield 13, 3) := dk_180 0 13 (dk_at dksX2_readBits_1 9 rfl rfl)
theorem dX2_readBits_35 : decode cX2_readBits 35 = .ok (.ifCond .le 94, 3) := dk_158 0 94 (dk_at dksX2_readBits_1 12 rfl rfl)
theorem dX2_readBits_38 : decode cX2_readBits 38 = .ok (.bipush 8, 2) := dk_16 8 (dk_at dksX2_readBits_1 15 rfl rfl)
theorem dX2_readBits_40 : decode cX2_readBits 40 = .ok (.aload_n 0, 1) := dk_42 (dk_at dksX2_readBits_1 17 rfl rfl)
theorem dX2_readBits_41 : decode cX2_readBits 41 = .ok (.getfield 13, 3) := dk_180 0 13 (dk_at dksX2_readBits_1 18 rfl rfl)
theorem dX2_readBits_44 : decode cX2_readBits 44 = .ok (.isub, 1) := dk_100 (dk_at dksX2_readBits_1 21 rfl rfl)
theorem dX2_readBits_45 : decode cX2_readBits 45 = .ok (.istore_n 3, 1) := dk_62 (dk_at dksX2_readBits_1 22 rfl rfl)
theorem dX2_readBits_46 : decode cX2_readBits 46 = .ok (.iload_n 1, 1) := dk_27 (dk_at dksX2_readBits_1 23 rfl rfl)
theorem dX2_readBits_47 : decode cX2_readBits 47 = .ok (.iload_n 3, 1) := dk_29 (dk_at dksX2_readBits_2 0 rfl rfl)
theorem dX2_readBits_48 : decode cX2_readBits 48 = .ok (.invokestatic 31, 3) := dk_184 0 31 (dk_at dksX2_readBits_2 1 rfl rfl)
theorem dX2_readBits_51 : decode cX2_readBits 51 = .ok (.istore 4, 2) := dk_54 4 (dk_at dksX2_readBits_2 4 rfl rfl)
theorem dX2_readBits_53 : decode cX2_readBits 53 = .ok (.iload_n 3, 1) := dk_29 (dk_at dksX2_readBits_2 6 rfl rfl)
theorem dX2_readBits_54 : decode cX2_readBits 54 = .ok (.iload 4, 2) := dk_21 4 (dk_at dksX2_readBits_2 7 rfl rfl)
theorem dX2_readBits_56 : decode cX2_readBits 56 = .ok (.isub, 1) := dk_100 (dk_at dksX2_readBits_2 9 rfl rfl)
theorem dX2_readBits_57 : decode cX2_readBits 57 = .ok (.istore 5, 2) := dk_54 5 (dk_at dksX2_readBits_2 10 rfl rfl)
theorem dX2_readBits_59 : decode cX2_readBits 59 = .ok (.sipush 255, 3) := dk_17 0 255 (dk_at dksX2_readBits_2 12 rfl rfl)
theorem dX2_readBits_62 : decode cX2_readBits 62 = .ok (.bipush 8, 2) := dk_16 8 (dk_at dksX2_readBits_2 15 rfl rfl)
theorem dX2_readBits_64 : decode cX2_readBits 64 = .ok (.iload 4, 2) := dk_21 4 (dk_at dksX2_readBits_2 17 rfl rfl)
theorem dX2_readBits_66 : decode cX2_readBits 66 = .ok (.isub, 1) := dk_100 (dk_at dksX2_readBits_2 19 rfl rfl)
theorem dX2_readBits_67 : decode cX2_readBits 67 = .ok (.ishr, 1) := dk_122 (dk_at dksX2_readBits_2 20 rfl rfl)
theorem dX2_readBits_68 : decode cX2_readBits 68 = .ok (.iload 5, 2) := dk_21 5 (dk_at dksX2_readBits_2 21 rfl rfl)
theorem dX2_readBits_70 : decode cX2_readBits 70 = .ok (.ishl, 1) := dk_120 (dk_at dksX2_readBits_2 23 rfl rfl)
theorem dX2_readBits_71 : decode cX2_readBits 71 = .ok (.istore 6, 2) := dk_54 6 (dk_at dksX2_readBits_3 0 rfl rfl)
theorem dX2_readBits_73 : decode cX2_readBits 73 = .ok (.aload_n 0, 1) := dk_42 (dk_at dksX2_readBits_3 2 rfl rfl)
theorem dX2_readBits_74 : decode cX2_readBits 74 = .ok (.getfield 7, 3) := dk_180 0 7 (dk_at dksX2_readBits_3 3 rfl rfl)
theorem dX2_readBits_77 : decode cX2_readBits 77 = .ok (.aload_n 0, 1) := dk_42 (dk_at dksX2_readBits_3 6 rfl rfl)
theorem dX2_readBits_78 : decode cX2_readBits 78 = .ok (.getfield 17, 3) := dk_180 0 17 (dk_at dksX2_readBits_3 7 rfl rfl)
theorem dX2_readBits_81 : decode cX2_readBits 81 = .ok (.baload, 1) := dk_51 (dk_at dksX2_readBits_3 10 rfl rfl)
theorem dX2_readBits_82 : decode cX2_readBits 82 = .ok (.iload 6, 2) := dk_21 6 (dk_at dksX2_readBits_3 11 rfl rfl)
theorem dX2_readBits_84 : decode cX2_readBits 84 = .ok (.iand, 1) := dk_126 (dk_at dksX2_readBits_3 13 rfl rfl)
theorem dX2_readBits_85 : decode cX2_readBits 85 = .ok (.iload 5, 2) := dk_21 5 (dk_at dksX2_readBits_3 14 rfl rfl)
theorem dX2_readBits_87 : decode cX2_readBits 87 = .ok (.ishr, 1) := dk_122 (dk_at dksX2_readBits_3 16 rfl rfl)
theorem dX2_readBits_88 : decode cX2_readBits 88 = .ok (.istore_n 2, 1) := dk_61 (dk_at dksX2_readBits_3 17 rfl rfl)
theorem dX2_readBits_89 : decode cX2_readBits 89 = .ok (.iload_n 1, 1) := dk_27 (dk_at dksX2_readBits_3 18 rfl rfl)
theorem dX2_readBits_90 : decode cX2_readBits 90 = .ok (.iload 4, 2) := dk_21 4 (dk_at dksX2_readBits_3 19 rfl rfl)
theorem dX2_readBits_92 : decode cX2_readBits 92 = .ok (.isub, 1) := dk_100 (dk_at dksX2_readBits_3 21 rfl rfl)
theorem dX2_readBits_93 : decode cX2_readBits 93 = .ok (.istore_n 1, 1) := dk_60 (dk_at dksX2_readBits_3 22 rfl rfl)
theorem dX2_readBits_94 : decode cX2_readBits 94 = .ok (.aload_n 0, 1) := dk_42 (dk_at dksX2_readBits_3 23 rfl rfl)
theorem dX2_readBits_95 : decode cX2_readBits 95 = .ok (.dup, 1) := dk_89 (dk_at dksX2_readBits_4 0 rfl rfl)
theorem dX2_readBits_96 : decode cX2_readBits 96 = .ok (.getfield 13, 3) := dk_180 0 13 (dk_at dksX2_readBits_4 1 rfl rfl)
theorem dX2_readBits_99 : decode cX2_readBits 99 = .ok (.iload 4, 2) := dk_21 4 (dk_at dksX2_readBits_4 4 rfl rfl)
theorem dX2_readBits_101 : decode cX2_readBits 101 = .ok (.iadd, 1) := dk_96 (dk_at dksX2_readBits_4 6 rfl rfl)
theorem dX2_readBits_102 : decode cX2_readBits 102 = .ok (.putfield 13, 3) := dk_181 0 13 (dk_at dksX2_readBits_4 7 rfl rfl)
theorem dX2_readBits_105 : decode cX2_readBits 105 = .ok (.aload_n 0, 1) := dk_42 (dk_at dksX2_readBits_4 10 rfl rfl)
theorem dX2_readBits_106 : decode cX2_readBits 106 = .ok (.getfield 13, 3) := dk_180 0 13 (dk_at dksX2_readBits_4 11 rfl rfl)
theorem dX2_readBits_109 : decode cX2_readBits 109 = .ok (.bipush 8, 2) := dk_16 8 (dk_at dksX2_readBits_4 14 rfl rfl)
theorem dX2_readBits_111 : decode cX2_readBits 111 = .ok (.if_icmp .ne 18, 3) := dk_160 0 18 (dk_at dksX2_readBits_4 16 rfl rfl)
theorem dX2_readBits_114 : decode cX2_readBits 114 = .ok (.aload_n 0, 1) := dk_42 (dk_at dksX2_readBits_4 19 rfl rfl)
theorem dX2_readBits_115 : decode cX2_readBits 115 = .ok (.iconst 0, 1) := dk_3 (dk_at dksX2_readBits_4 20 rfl rfl)
theorem dX2_readBits_116 : decode cX2_readBits 116 = .ok (.putfield 13, 3) := dk_181 0 13 (dk_at dksX2_readBits_4 21 rfl rfl)
theorem dX2_readBits_119 : decode cX2_readBits 119 = .ok (.aload_n 0, 1) := dk_42 (dk_at dksX2_readBits_5 0 rfl rfl)
theorem dX2_readBits_120 : decode cX2_readBits 120 = .ok (.dup, 1) := dk_89 (dk_at dksX2_readBits_5 1 rfl rfl)
theorem dX2_readBits_121 : decode cX2_readBits 121 = .ok (.getfield 17, 3) := dk_180 0 17 (dk_at dksX2_readBits_5 2 rfl rfl)
theorem dX2_readBits_124 : decode cX2_readBits 124 = .ok (.iconst 1, 1) := dk_4 (dk_at dksX2_readBits_5 5 rfl rfl)
theorem dX2_readBits_125 : decode cX2_readBits 125 = .ok (.iadd, 1) := dk_96 (dk_at dksX2_readBits_5 6 rfl rfl)
theorem dX2_readBits_126 : decode cX2_readBits 126 = .ok (.putfield 17, 3) := dk_181 0 17 (dk_at dksX2_readBits_5 7 rfl rfl)
theorem dX2_readBits_129 : decode cX2_readBits 129 = .ok (.iload_n 1, 1) := dk_27 (dk_at dksX2_readBits_5 10 rfl rfl)
theorem dX2_readBits_130 : decode cX2_readBits 130 = .ok (.ifCond .le 91, 3) := dk_158 0 91 (dk_at dksX2_readBits_5 11 rfl rfl)
theorem dX2_readBits_133 : decode cX2_readBits 133 = .ok (.iload_n 1, 1) := dk_27 (dk_at dksX2_readBits_5 14 rfl rfl)
theorem dX2_readBits_134 : decode cX2_readBits 134 = .ok (.bipush 8, 2) := dk_16 8 (dk_at dksX2_readBits_5 15 rfl rfl)
theorem dX2_readBits_136 : decode cX2_readBits 136 = .ok (.if_icmp .lt 38, 3) := dk_161 0 38 (dk_at dksX2_readBits_5 17 rfl rfl)
theorem dX2_readBits_139 : decode cX2_readBits 139 = .ok (.iload_n 2, 1) := dk_28 (dk_at dksX2_readBits_5 20 rfl rfl)
theorem dX2_readBits_140 : decode cX2_readBits 140 = .ok (.bipush 8, 2) := dk_16 8 (dk_at dksX2_readBits_5 21 rfl rfl)
theorem dX2_readBits_142 : decode cX2_readBits 142 = .ok (.ishl, 1) := dk_120 (dk_at dksX2_readBits_5 23 rfl rfl)
theorem dX2_readBits_143 : decode cX2_readBits 143 = .ok (.aload_n 0, 1) := dk_42 (dk_at dksX2_readBits_6 0 rfl rfl)
theorem dX2_readBits_144 : decode cX2_readBits 144 = .ok (.getfield 7, 3) := dk_180 0 7 (dk_at dksX2_readBits_6 1 rfl rfl)
theorem dX2_readBits_147 : decode cX2_readBits 147 = .ok (.aload_n 0, 1) := dk_42 (dk_at dksX2_readBits_6 4 rfl rfl)
theorem dX2_readBits_148 : decode cX2_readBits 148 = .ok (.getfield 17, 3) := dk_180 0 17 (dk_at dksX2_readBits_6 5 rfl rfl)
theorem dX2_readBits_151 : decode cX2_readBits 151 = .ok (.baload, 1) := dk_51 (dk_at dksX2_readBits_6 8 rfl rfl)
theorem dX2_readBits_152 : decode cX2_readBits 152 = .ok (.sipush 255, 3) := dk_17 0 255 (dk_at dksX2_readBits_6 9 rfl rfl)
theorem dX2_readBits_155 : decode cX2_readBits 155 = .ok (.iand, 1) := dk_126 (dk_at dksX2_readBits_6 12 rfl rfl)
theorem dX2_readBits_156 : decode cX2_readBits 156 = .ok (.ior, 1) := dk_128 (dk_at dksX2_readBits_6 13 rfl rfl)
theorem dX2_readBits_157 : decode cX2_readBits 157 = .ok (.istore_n 2, 1) := dk_61 (dk_at dksX2_readBits_6 14 rfl rfl)
theorem dX2_readBits_158 : decode cX2_readBits 158 = .ok (.aload_n 0, 1) := dk_42 (dk_at dksX2_readBits_6 15 rfl rfl)
theorem dX2_readBits_159 : decode cX2_readBits 159 = .ok (.dup, 1) := dk_89 (dk_at dksX2_readBits_6 16 rfl rfl)
theorem dX2_readBits_160 : decode cX2_readBits 160 = .ok (.getfield 17, 3) := dk_180 0 17 (dk_at dksX2_readBits_6 17 rfl rfl)
theorem dX2_readBits_163 : decode cX2_readBits 163 = .ok (.iconst 1, 1) := dk_4 (dk_at dksX2_readBits_6 20 rfl rfl)
theorem dX2_readBits_164 : decode cX2_readBits 164 = .ok (.iadd, 1) := dk_96 (dk_at dksX2_readBits_6 21 rfl rfl)
theorem dX2_readBits_165 : decode cX2_readBits 165 = .ok (.putfield 17, 3) := dk_181 0 17 (dk_at dksX2_readBits_7 0 rfl rfl)
theorem dX2_readBits_168 : decode cX2_readBits 168 = .ok (.iinc 1 (-8), 3) := dk_132 1 248 (dk_at dksX2_readBits_7 3 rfl rfl)
theorem dX2_readBits_171 : decode cX2_readBits 171 = .ok (.goto (-38), 3) := dk_167 255 218 (dk_at dksX2_readBits_7 6 rfl rfl)
theorem dX2_readBits_174 : decode cX2_readBits 174 = .ok (.iload_n 1, 1) := dk_27 (dk_at dksX2_readBits_7 9 rfl rfl)
theorem dX2_readBits_175 : decode cX2_readBits 175 = .ok (.ifCond .le 46, 3) := dk_158 0 46 (dk_at dksX2_readBits_7 10 rfl rfl)
theorem dX2_readBits_178 : decode cX2_readBits 178 = .ok (.bipush 8, 2) := dk_16 8 (dk_at dksX2_readBits_7 13 rfl rfl)
theorem dX2_readBits_180 : decode cX2_readBits 180 = .ok (.iload_n 1, 1) := dk_27 (dk_at dksX2_readBits_7 15 rfl rfl)
theorem dX2_readBits_181 : decode cX2_readBits 181 = .ok (.isub, 1) := dk_100 (dk_at dksX2_readBits_7 16 rfl rfl)
theorem dX2_readBits_182 : decode cX2_readBits 182 = .ok (.istore_n 3, 1) := dk_62 (dk_at dksX2_readBits_7 17 rfl rfl)
theorem dX2_readBits_183 : decode cX2_readBits 183 = .ok (.sipush 255, 3) := dk_17 0 255 (dk_at dksX2_readBits_7 18 rfl rfl)
theorem dX2_readBits_186 : decode cX2_readBits 186 = .ok (.iload_n 3, 1) := dk_29 (dk_at dksX2_readBits_7 21 rfl rfl)
theorem dX2_readBits_187 : decode cX2_readBits 187 = .ok (.ishr, 1) := dk_122 (dk_at dksX2_readBits_7 22 rfl rfl)
theorem dX2_readBits_188 : decode cX2_readBits 188 = .ok (.iload_n 3, 1) := dk_29 (dk_at dksX2_readBits_7 23 rfl rfl)
theorem dX2_readBits_189 : decode cX2_readBits 189 = .ok (.ishl, 1) := dk_120 (dk_at dksX2_readBits_8 0 rfl rfl)
theorem dX2_readBits_190 : decode cX2_readBits 190 = .ok (.istore 4, 2) := dk_54 4 (dk_at dksX2_readBits_8 1 rfl rfl)
theorem dX2_readBits_192 : decode cX2_readBits 192 = .ok (.iload_n 2, 1) := dk_28 (dk_at dksX2_readBits_8 3 rfl rfl)
theorem dX2_readBits_193 : decode cX2_readBits 193 = .ok (.iload_n 1, 1) := dk_27 (dk_at dksX2_readBits_8 4 rfl rfl)
theorem dX2_readBits_194 : decode cX2_readBits 194 = .ok (.ishl, 1) := dk_120 (dk_at dksX2_readBits_8 5 rfl rfl)
theorem dX2_readBits_195 : decode cX2_readBits 195 = .ok (.aload_n 0, 1) := dk_42 (dk_at dksX2_readBits_8 6 rfl rfl)
theorem dX2_readBits_196 : decode cX2_readBits 196 = .ok (.getfield 7, 3) := dk_180 0 7 (dk_at dksX2_readBits_8 7 rfl rfl)
theorem dX2_readBits_199 : decode cX2_readBits 199 = .ok (.aload_n 0, 1) := dk_42 (dk_at dksX2_readBits_8 10 rfl rfl)
theorem dX2_readBits_200 : decode cX2_readBits 200 = .ok (.getfield 17, 3) := dk_180 0 17 (dk_at dksX2_readBits_8 11 rfl rfl)
theorem dX2_readBits_203 : decode cX2_readBits 203 = .ok (.baload, 1) := dk_51 (dk_at dksX2_readBits_8 14 rfl rfl)
theorem dX2_readBits_204 : decode cX2_readBits 204 = .ok (.iload 4, 2) := dk_21 4 (dk_at dksX2_readBits_8 15 rfl rfl)
theorem dX2_readBits_206 : decode cX2_readBits 206 = .ok (.iand, 1) := dk_126 (dk_at dksX2_readBits_8 17 rfl rfl)
theorem dX2_readBits_207 : decode cX2_readBits 207 = .ok (.iload_n 3, 1) := dk_29 (dk_at dksX2_readBits_8 18 rfl rfl)
theorem dX2_readBits_208 : decode cX2_readBits 208 = .ok (.ishr, 1) := dk_122 (dk_at dksX2_readBits_8 19 rfl rfl)
theorem dX2_readBits_209 : decode cX2_readBits 209 = .ok (.ior, 1) := dk_128 (dk_at dksX2_readBits_8 20 rfl rfl)
theorem dX2_readBits_210 : decode cX2_readBits 210 = .ok (.istore_n 2, 1) := dk_61 (dk_at dksX2_readBits_8 21 rfl rfl)
theorem dX2_readBits_211 : decode cX2_readBits 211 = .ok (.aload_n 0, 1) := dk_42 (dk_at dksX2_readBits_8 22 rfl rfl)
theorem dX2_readBits_212 : decode cX2_readBits 212 = .ok (.dup, 1) := dk_89 (dk_at dksX2_readBits_8 23 rfl rfl)
theorem dX2_readBits_213 : decode cX2_readBits 213 = .ok (.getfield 13, 3) := dk_180 0 13 (dk_at dksX2_readBits_9 0 rfl rfl)
theorem dX2_readBits_216 : decode cX2_readBits 216 = .ok (.iload_n 1, 1) := dk_27 (dk_at dksX2_readBits_9 3 rfl rfl)
theorem dX2_readBits_217 : decode cX2_readBits 217 = .ok (.iadd, 1) := dk_96 (dk_at dksX2_readBits_9 4 rfl rfl)
theorem dX2_readBits_218 : decode cX2_readBits 218 = .ok (.putfield 13, 3) := dk_181 0 13 (dk_at dksX2_readBits_9 5 rfl rfl)
theorem dX2_readBits_221 : decode cX2_readBits 221 = .ok (.iload_n 2, 1) := dk_28 (dk_at dksX2_readBits_9 8 rfl rfl)
theorem dX2_readBits_222 : decode cX2_readBits 222 = .ok (.ireturn, 1) := dk_172 (dk_at dksX2_readBits_9 9 rfl rfl)
abbrev cX2_getByteOffset : ByteArray := prog_3_method_3_code
def yX2_getByteOffset : MethodName := ⟨RX2, "getByteOffset", "()I"⟩
theorem dX2_getByteOffset_0 : decode cX2_getByteOffset 0 = .ok (.aload_n 0, 1) := by decide +kernel
theorem dX2_getByteOffset_1 : decode cX2_getByteOffset 1 = .ok (.getfield 17, 3) := by decide +kernel
theorem dX2_getByteOffset_4 : decode cX2_getByteOffset 4 = .ok (.ireturn, 1) := by decide +kernel
abbrev cX2_getBitOffset : ByteArray := prog_3_method_2_code
def yX2_getBitOffset : MethodName := ⟨RX2, "getBitOffset", "()I"⟩
theorem dX2_getBitOffset_0 : decode cX2_getBitOffset 0 = .ok (.aload_n 0, 1) := by decide +kernel
theorem dX2_getBitOffset_1 : decode cX2_getBitOffset 1 = .ok (.getfield 13, 3) := by decide +kernel
theorem dX2_getBitOffset_4 : decode cX2_getBitOffset 4 = .ok (.ireturn, 1) := by decide +kernel
theorem q5 : (Jvm.Cond.initialized "BitSource") ∈ lw_all := lw_g (lw_at lw_m0 2 rfl) rfl
theorem q26 : (Jvm.Cond.instantiable "BitSource" (3 : Nat)) ∈ lw_all := lw_g (lw_at lw_m0 23 rfl) rfl
theorem q28 : (Jvm.Cond.instanceMethod ({ cls := "BitSource", name := "<init>", desc := "([B)V" } : Jvm.MethodName)) ∈ lw_all := lw_g (lw_at lw_m0 25 rfl) rfl
theorem q29 : (Jvm.Cond.code ({ cls := "BitSource", name := "<init>", desc := "([B)V" } : Jvm.MethodName) prog_3_method_1_code (2 : Nat) (Option.none : Option Jvm.ClassFile.FieldType)) ∈ lw_all := lw_g (lw_at lw_m0 26 rfl) rfl
theorem q30 : (Jvm.Cond.methodLink "BitSource" (1 : Nat) ({ cls := "java/lang/Object", name := "<init>", desc := "()V" } : Jvm.MethodName)) ∈ lw_all := lw_g (lw_at lw_m0 27 rfl) rfl
theorem q31 : (Jvm.Cond.fieldLink "BitSource" (7 : Nat) "BitSource" "bytes" "[B") ∈ lw_all := lw_g (lw_at lw_m0 28 rfl) rfl
theorem q32 : (Jvm.Cond.fieldLink "BitSource" (17 : Nat) "BitSource" "byteOffset" "I") ∈ lw_all := lw_g (lw_at lw_m0 29 rfl) rfl
theorem q33 : (Jvm.Cond.fieldLink "BitSource" (13 : Nat) "BitSource" "bitOffset" "I") ∈ lw_all := lw_g (lw_at lw_m0 30 rfl) rfl
theorem q34 : (Jvm.Cond.laysFinal "BitSource" "BitSource" "bytes" "[B") ∈ lw_all := lw_g (lw_at lw_m0 31 rfl) rfl
theorem q35 : (Jvm.Cond.soleField "BitSource" "bytes") ∈ lw_all := lw_g (lw_at lw_m0 32 rfl) rfl
theorem q36 : (Jvm.Cond.lays "BitSource" "BitSource" "byteOffset" "I") ∈ lw_all := lw_g (lw_at lw_m0 33 rfl) rfl
theorem q37 : (Jvm.Cond.soleField "BitSource" "byteOffset") ∈ lw_all := lw_g (lw_at lw_m0 34 rfl) rfl
theorem q38 : (Jvm.Cond.lays "BitSource" "BitSource" "bitOffset" "I") ∈ lw_all := lw_g (lw_at lw_m0 35 rfl) rfl
theorem q39 : (Jvm.Cond.soleField "BitSource" "bitOffset") ∈ lw_all := lw_g (lw_at lw_m0 36 rfl) rfl
theorem q40 : (Jvm.Cond.superclass "BitSource" "java/lang/Object") ∈ lw_all := lw_g (lw_at lw_m0 37 rfl) rfl
theorem q72 : (Jvm.Cond.instanceMethod ({ cls := "BitSource", name := "available", desc := "()I" } : Jvm.MethodName)) ∈ lw_all := lw_g (lw_at lw_m0 69 rfl) rfl
theorem q73 : (Jvm.Cond.selects "BitSource" ({ cls := "BitSource", name := "available", desc := "()I" } : Jvm.MethodName) ({ cls := "BitSource", name := "available", desc := "()I" } : Jvm.MethodName)) ∈ lw_all := lw_g (lw_at lw_m0 70 rfl) rfl
theorem q74 : (Jvm.Cond.code ({ cls := "BitSource", name := "available", desc := "()I" } : Jvm.MethodName) prog_3_method_5_code (1 : Nat) (Option.some Jvm.ClassFile.FieldType.int)) ∈ lw_all := lw_g (lw_at lw_m0 71 rfl) rfl
theorem q77 : (Jvm.Cond.instanceMethod ({ cls := "BitSource", name := "readBits", desc := "(I)I" } : Jvm.MethodName)) ∈ lw_all := lw_g (lw_at lw_m0 74 rfl) rfl
theorem q78 : (Jvm.Cond.selects "BitSource" ({ cls := "BitSource", name := "readBits", desc := "(I)I" } : Jvm.MethodName) ({ cls := "BitSource", name := "readBits", desc := "(I)I" } : Jvm.MethodName)) ∈ lw_all := lw_g (lw_at lw_m0 75 rfl) rfl
theorem q79 : (Jvm.Cond.code ({ cls := "BitSource", name := "readBits", desc := "(I)I" } : Jvm.MethodName) prog_3_method_4_code (7 : Nat) (Option.some Jvm.ClassFile.FieldType.int)) ∈ lw_all := lw_g (lw_at lw_m0 76 rfl) rfl
theorem q80 : (Jvm.Cond.methodLink "BitSource" (20 : Nat) ({ cls := "BitSource", name := "available", desc := "()I" } : Jvm.MethodName)) ∈ lw_all := lw_g (lw_at lw_m0 77 rfl) rfl
theorem q81 : (Jvm.Cond.classLink "BitSource" (24 : Nat) "java/lang/IllegalArgumentException") ∈ lw_all := lw_g (lw_at lw_m0 78 rfl) rfl
theorem q120 : (Jvm.Cond.stringRef "BitSource" (26 : Nat) "left out") ∈ lw_tbl := lw_at lw_m0 117 rfl
theorem q121 : (Jvm.Cond.methodLink "BitSource" (28 : Nat) ({ cls := "java/lang/IllegalArgumentException", name := "<init>", desc := "(Ljava/lang/String;)V" } : Jvm.MethodName)) ∈ lw_all := lw_g (lw_at lw_m0 118 rfl) rfl
theorem q146 : (Jvm.Cond.methodLink "BitSource" (31 : Nat) ({ cls := "java/lang/Math", name := "min", desc := "(II)I" } : Jvm.MethodName)) ∈ lw_all := lw_g (lw_at lw_m0 143 rfl) rfl
theorem q160 : (Jvm.Cond.instanceMethod ({ cls := "BitSource", name := "getByteOffset", desc := "()I" } : Jvm.MethodName)) ∈ lw_all := lw_g (lw_at lw_m0 157 rfl) rfl
theorem q161 : (Jvm.Cond.selects "BitSource" ({ cls := "BitSource", name := "getByteOffset", desc := "()I" } : Jvm.MethodName) ({ cls := "BitSource", name := "getByteOffset", desc := "()I" } : Jvm.MethodName)) ∈ lw_all := lw_g (lw_at lw_m0 158 rfl) rfl
theorem q162 : (Jvm.Cond.code ({ cls := "BitSource", name := "getByteOffset", desc := "()I" } : Jvm.MethodName) prog_3_method_3_code (1 : Nat) (Option.some Jvm.ClassFile.FieldType.int)) ∈ lw_all := lw_g (lw_at lw_m0 159 rfl) rfl
theorem q168 : (Jvm.Cond.instanceMethod ({ cls := "BitSource", name := "getBitOffset", desc := "()I" } : Jvm.MethodName)) ∈ lw_all := lw_g (lw_at lw_m0 165 rfl) rfl
theorem q169 : (Jvm.Cond.selects "BitSource" ({ cls := "BitSource", name := "getBitOffset", desc := "()I" } : Jvm.MethodName) ({ cls := "BitSource", name := "getBitOffset", desc := "()I" } : Jvm.MethodName)) ∈ lw_all := lw_g (lw_at lw_m0 166 rfl) rfl
theorem q170 : (Jvm.Cond.code ({ cls := "BitSource", name := "getBitOffset", desc := "()I" } : Jvm.MethodName) prog_3_method_2_code (1 : Nat) (Option.some Jvm.ClassFile.FieldType.int)) ∈ lw_all := lw_g (lw_at lw_m0 167 rfl) rfl
theorem in_X2 : ∀ w ∈ wsX20, w ∈ lw_all := lw_in wsX20 [34, 36, 38] (by decide +kernel) (by decide +kernel)
/-! BitReader -/
set_option maxRecDepth 100000
def RX1 : String := "BitReader"
def TX1 : u_T := fun k => match k with
  | 0 => ("BitReader", "text", "[B", true)
  | 1 => ("BitReader", "size", "I", false)
  | _ => ("BitReader", "source", "LBitSource;", false)
def tyX1 : Nat → FieldType := fun k => match k with
  | 0 => .array .byte
  | 1 => .int
  | _ => .object "BitSource"
abbrev wsX10 : List Cond := u_ws RX1 TX1 3
theorem nmX1 : ∀ a, a < 3 → ∀ b, b < 3 → a ≠ b → (TX1 a).2.1 ≠ (TX1 b).2.1 := by decide +kernel
theorem tyX1_ok : ∀ k, k < 3 → parseFieldDescriptor (TX1 k).2.2.1 = some (tyX1 k) := by decide +kernel
abbrev cX1_init : ByteArray := prog_1_method_1_code
def yX1_init : MethodName := ⟨RX1, "<init>", "()V"⟩
def dkwX1_init_1 : List UInt8 := [181, 0, 18, 177]
abbrev dktX1_init_1 : List UInt8 := dkwX1_init_1 ++ []
def dkwX1_init_0 : List UInt8 := [42, 183, 0, 1, 42, 17, 16, 0, 188, 8, 181, 0, 7, 42, 187, 0, 13, 89, 3, 188, 8, 183, 0, 15]
abbrev dktX1_init_0 : List UInt8 := dkwX1_init_0 ++ dktX1_init_1
theorem dksX1_init_0 : cX1_init.data.toList.drop 0 = dktX1_init_0 := by decide +kernel
theorem dksX1_init_1 : cX1_init.data.toList.drop 24 = dktX1_init_1 := dk_seg dksX1_init_0 24 rfl rfl
theorem dX1_init_0 : decode cX1_init 0 = .ok (.aload_n 0, 1) := dk_42 (dk_at dksX1_init_0 0 rfl rfl)
theorem dX1_init_1 : decode cX1_init 1 = .ok (.invokespecial 1, 3) := dk_183 0 1 (dk_at dksX1_init_0 1 rfl rfl)
theorem dX1_init_4 : decode cX1_init 4 = .ok (.aload_n 0, 1) := dk_42 (dk_at dksX1_init_0 4 rfl rfl)
theorem dX1_init_5 : decode cX1_init 5 = .ok (.sipush 4096, 3) := dk_17 16 0 (dk_at dksX1_init_0 5 rfl rfl)
theorem dX1_init_8 : decode cX1_init 8 = .ok (.newarray .byte, 2) := dk_188_8 (dk_at dksX1_init_0 8 rfl rfl)
theorem dX1_init_10 : decode cX1_init 10 = .ok (.putfield 7, 3) := dk_181 0 7 (dk_at dksX1_init_0 10 rfl rfl)
theorem dX1_init_13 : decode cX1_init 13 = .ok (.aload_n 0, 1) := dk_42 (dk_at dksX1_init_0 13 rfl rfl)
theorem dX1_init_14 : decode cX1_init 14 = .ok (.new 13, 3) := dk_187 0 13 (dk_at dksX1_init_0 14 rfl rfl)
theorem dX1_init_17 : decode cX1_init 17 = .ok (.dup, 1) := dk_89 (dk_at dksX1_init_0 17 rfl rfl)
theorem dX1_init_18 : decode cX1_init 18 = .ok (.iconst 0, 1) := dk_3 (dk_at dksX1_init_0 18 rfl rfl)
theorem dX1_init_19 : decode cX1_init 19 = .ok (.newarray .byte, 2) := dk_188_8 (dk_at dksX1_init_0 19 rfl rfl)
theorem dX1_init_21 : decode cX1_init 21 = .ok (.invokespecial 15, 3) := dk_183 0 15 (dk_at dksX1_init_0 21 rfl rfl)
theorem dX1_init_24 : decode cX1_init 24 = .ok (.putfield 18, 3) := dk_181 0 18 (dk_at dksX1_init_1 0 rfl rfl)
theorem dX1_init_27 : decode cX1_init 27 = .ok (.return_, 1) := dk_177 (dk_at dksX1_init_1 3 rfl rfl)
abbrev cX1_put : ByteArray := prog_1_method_2_code
def yX1_put : MethodName := ⟨RX1, "put", "(IIII)Z"⟩
def dkwX1_put_3 : List UInt8 := [181, 0, 22, 4, 172]
abbrev dktX1_put_3 : List UInt8 := dkwX1_put_3 ++ []
def dkwX1_put_2 : List UInt8 := [182, 0, 26, 42, 42, 180, 0, 22, 16, 12, 96, 21, 4, 182, 0, 26, 42, 89, 180, 0, 22, 16, 16, 96]
abbrev dktX1_put_2 : List UInt8 := dkwX1_put_2 ++ dktX1_put_3
def dkwX1_put_1 : List UInt8 := [182, 0, 26, 42, 42, 180, 0, 22, 7, 96, 28, 182, 0, 26, 42, 42, 180, 0, 22, 16, 8, 96, 29]
abbrev dktX1_put_1 : List UInt8 := dkwX1_put_1 ++ dktX1_put_2
def dkwX1_put_0 : List UInt8 := [42, 180, 0, 22, 42, 180, 0, 7, 190, 16, 16, 100, 164, 0, 5, 3, 172, 42, 42, 180, 0, 22, 27]
abbrev dktX1_put_0 : List UInt8 := dkwX1_put_0 ++ dktX1_put_1
theorem dksX1_put_0 : cX1_put.data.toList.drop 0 = dktX1_put_0 := by decide +kernel
theorem dksX1_put_1 : cX1_put.data.toList.drop 23 = dktX1_put_1 := dk_seg dksX1_put_0 23 rfl rfl
theorem dksX1_put_2 : cX1_put.data.toList.drop 46 = dktX1_put_2 := dk_seg dksX1_put_1 23 rfl rfl
theorem dksX1_put_3 : cX1_put.data.toList.drop 70 = dktX1_put_3 := dk_seg dksX1_put_2 24 rfl rfl
theorem dX1_put_0 : decode cX1_put 0 = .ok (.aload_n 0, 1) := dk_42 (dk_at dksX1_put_0 0 rfl rfl)
theorem dX1_put_1 : decode cX1_put 1 = .ok (.getfield 22, 3) := dk_180 0 22 (dk_at dksX1_put_0 1 rfl rfl)
theorem dX1_put_4 : decode cX1_put 4 = .ok (.aload_n 0, 1) := dk_42 (dk_at dksX1_put_0 4 rfl rfl)
theorem dX1_put_5 : decode cX1_put 5 = .ok (.getfield 7, 3) := dk_180 0 7 (dk_at dksX1_put_0 5 rfl rfl)
theorem dX1_put_8 : decode cX1_put 8 = .ok (.arraylength, 1) := dk_190 (dk_at dksX1_put_0 8 rfl rfl)
theorem dX1_put_9 : decode cX1_put 9 = .ok (.bipush 16, 2) := dk_16 16 (dk_at dksX1_put_0 9 rfl rfl)
theorem dX1_put_11 : decode cX1_put 11 = .ok (.isub, 1) := dk_100 (dk_at dksX1_put_0 11 rfl rfl)
theorem dX1_put_12 : decode cX1_put 12 = .ok (.if_icmp .le 5, 3) := dk_164 0 5 (dk_at dksX1_put_0 12 rfl rfl)
theorem dX1_put_15 : decode cX1_put 15 = .ok (.iconst 0, 1) := dk_3 (dk_at dksX1_put_0 15 rfl rfl)
theorem dX1_put_16 : decode cX1_put 16 = .ok (.ireturn, 1) := dk_172 (dk_at dksX1_put_0 16 rfl rfl)
theorem dX1_put_17 : decode cX1_put 17 = .ok (.aload_n 0, 1) := dk_42 (dk_at dksX1_put_0 17 rfl rfl)
theorem dX1_put_18 : decode cX1_put 18 = .ok (.aload_n 0, 1) := dk_42 (dk_at dksX1_put_0 18 rfl rfl)
theorem dX1_put_19 : decode cX1_put 19 = .ok (.getfield 22, 3) := dk_180 0 22 (dk_at dksX1_put_0 19 rfl rfl)
theorem dX1_put_22 : decode cX1_put 22 = .ok (.iload_n 1, 1) := dk_27 (dk_at dksX1_put_0 22 rfl rfl)
theorem dX1_put_23 : decode cX1_put 23 = .ok (.invokevirtual 26, 3) := dk_182 0 26 (dk_at dksX1_put_1 0 rfl rfl)
theorem dX1_put_26 : decode cX1_put 26 = .ok (.aload_n 0, 1) := dk_42 (dk_at dksX1_put_1 3 rfl rfl)
theorem dX1_put_27 : decode cX1_put 27 = .ok (.aload_n 0, 1) := dk_42 (dk_at dksX1_put_1 4 rfl rfl)
theorem dX1_put_28 : decode cX1_put 28 = .ok (.getfield 22, 3) := dk_180 0 22 (dk_at dksX1_put_1 5 rfl rfl)
theorem dX1_put_31 : decode cX1_put 31 = .ok (.iconst 4, 1) := dk_7 (dk_at dksX1_put_1 8 rfl rfl)
theorem dX1_put_32 : decode cX1_put 32 = .ok (.iadd, 1) := dk_96 (dk_at dksX1_put_1 9 rfl rfl)
theorem dX1_put_33 : decode cX1_put 33 = .ok (.iload_n 2, 1) := dk_28 (dk_at dksX1_put_1 10 rfl rfl)
theorem dX1_put_34 : decode cX1_put 34 = .ok (.invokevirtual 26, 3) := dk_182 0 26 (dk_at dksX1_put_1 11 rfl rfl)
theorem dX1_put_37 : decode cX1_put 37 = .ok (.aload_n 0, 1) := dk_42 (dk_at dksX1_put_1 14 rfl rfl)
theorem dX1_put_38 : decode cX1_put 38 = .ok (.aload_n 0, 1) := dk_42 (dk_at dksX1_put_1 15 rfl rfl)
theorem dX1_put_39 : decode cX1_put 39 = .ok (.getfield 22, 3) := dk_180 0 22 (dk_at dksX1_put_1 16 rfl rfl)
theorem dX1_put_42 : decode cX1_put 42 = .ok (.bipush 8, 2) := dk_16 8 (dk_at dksX1_put_1 19 rfl rfl)
theorem dX1_put_44 : decode cX1_put 44 = .ok (.iadd, 1) := dk_96 (dk_at dksX1_put_1 21 rfl rfl)
theorem dX1_put_45 : decode cX1_put 45 = .ok (.iload_n 3, 1) := dk_29 (dk_at dksX1_put_1 22 rfl rfl)
theorem dX1_put_46 : decode cX1_put 46 = .ok (.invokevirtual 26, 3) := dk_182 0 26 (dk_at dksX1_put_2 0 rfl rfl)
theorem dX1_put_49 : decode cX1_put 49 = .ok (.aload_n 0, 1) := dk_42 (dk_at dksX1_put_2 3 rfl rfl)
theorem dX1_put_50 : decode cX1_put 50 = .ok (.aload_n 0, 1) := dk_42 (dk_at dksX1_put_2 4 rfl rfl)
theorem dX1_put_51 : decode cX1_put 51 = .ok (.getfield 22, 3) := dk_180 0 22 (dk_at dksX1_put_2 5 rfl rfl)
theorem dX1_put_54 : decode cX1_put 54 = .ok (.bipush 12, 2) := dk_16 12 (dk_at dksX1_put_2 8 rfl rfl)
theorem dX1_put_56 : decode cX1_put 56 = .ok (.iadd, 1) := dk_96 (dk_at dksX1_put_2 10 rfl rfl)
theorem dX1_put_57 : decode cX1_put 57 = .ok (.iload 4, 2) := dk_21 4 (dk_at dksX1_put_2 11 rfl rfl)
theorem dX1_put_59 : decode cX1_put 59 = .ok (.invokevirtual 26, 3) := dk_182 0 26 (dk_at dksX1_put_2 13 rfl rfl)
theorem dX1_put_62 : decode cX1_put 62 = .ok (.aload_n 0, 1) := dk_42 (dk_at dksX1_put_2 16 rfl rfl)
theorem dX1_put_63 : decode cX1_put 63 = .ok (.dup, 1) := dk_89 (dk_at dksX1_put_2 17 rfl rfl)
theorem dX1_put_64 : decode cX1_put 64 = .ok (.getfield 22, 3) := dk_180 0 22 (dk_at dksX1_put_2 18 rfl rfl)
theorem dX1_put_67 : decode cX1_put 67 = .ok (.bipush 16, 2) := dk_16 16 (dk_at dksX1_put_2 21 rfl rfl)
theorem dX1_put_69 : decode cX1_put 69 = .ok (.iadd, 1) := dk_96 (dk_at dksX1_put_2 23 rfl rfl)
theorem dX1_put_70 : decode cX1_put 70 = .ok (.putfield 22, 3) := dk_181 0 22 (dk_at dksX1_put_3 0 rfl rfl)
theorem dX1_put_73 : decode cX1_put 73 = .ok (.iconst 1, 1) := dk_4 (dk_at dksX1_put_3 3 rfl rfl)
theorem dX1_put_74 : decode cX1_put 74 = .ok (.ireturn, 1) := dk_172 (dk_at dksX1_put_3 4 rfl rfl)
abbrev cX1_word : ByteArray := prog_1_method_3_code
def yX1_word : MethodName := ⟨RX1, "word", "(II)V"⟩
def dkwX1_word_1 : List UInt8 := [42, 180, 0, 7, 27, 5, 96, 28, 16, 8, 122, 145, 84, 42, 180, 0, 7, 27, 6, 96, 28, 145, 84, 177]
abbrev dktX1_word_1 : List UInt8 := dkwX1_word_1 ++ []
def dkwX1_word_0 : List UInt8 := [42, 180, 0, 7, 27, 28, 16, 24, 122, 145, 84, 42, 180, 0, 7, 27, 4, 96, 28, 16, 16, 122, 145, 84]
abbrev dktX1_word_0 : List UInt8 := dkwX1_word_0 ++ dktX1_word_1
theorem dksX1_word_0 : cX1_word.data.toList.drop 0 = dktX1_word_0 := by decide +kernel
theorem dksX1_word_1 : cX1_word.data.toList.drop 24 = dktX1_word_1 := dk_seg dksX1_word_0 24 rfl rfl
theorem dX1_word_0 : decode cX1_word 0 = .ok (.aload_n 0, 1) := dk_42 (dk_at dksX1_word_0 0 rfl rfl)
theorem dX1_word_1 : decode cX1_word 1 = .ok (.getfield 7, 3) := dk_180 0 7 (dk_at dksX1_word_0 1 rfl rfl)
theorem dX1_word_4 : decode cX1_word 4 = .ok (.iload_n 1, 1) := dk_27 (dk_at dksX1_word_0 4 rfl rfl)
theorem dX1_word_5 : decode cX1_word 5 = .ok (.iload_n 2, 1) := dk_28 (dk_at dksX1_word_0 5 rfl rfl)
theorem dX1_word_6 : decode cX1_word 6 = .ok (.bipush 24, 2) := dk_16 24 (dk_at dksX1_word_0 6 rfl rfl)
theorem dX1_word_8 : decode cX1_word 8 = .ok (.ishr, 1) := dk_122 (dk_at dksX1_word_0 8 rfl rfl)
theorem dX1_word_9 : decode cX1_word 9 = .ok (.i2b, 1) := dk_145 (dk_at dksX1_word_0 9 rfl rfl)
theorem dX1_word_10 : decode cX1_word 10 = .ok (.bastore, 1) := dk_84 (dk_at dksX1_word_0 10 rfl rfl)
theorem dX1_word_11 : decode cX1_word 11 = .ok (.aload_n 0, 1) := dk_42 (dk_at dksX1_word_0 11 rfl rfl)
theorem dX1_word_12 : decode cX1_word 12 = .ok (.getfield 7, 3) := dk_180 0 7 (dk_at dksX1_word_0 12 rfl rfl)
theorem dX1_word_15 : decode cX1_word 15 = .ok (.iload_n 1, 1) := dk_27 (dk_at dksX1_word_0 15 rfl rfl)
theorem dX1_word_16 : decode cX1_word 16 = .ok (.iconst 1, 1) := dk_4 (dk_at dksX1_word_0 16 rfl rfl)
theorem dX1_word_17 : decode cX1_word 17 = .ok (.iadd, 1) := dk_96 (dk_at dksX1_word_0 17 rfl rfl)
theorem dX1_word_18 : decode cX1_word 18 = .ok (.iload_n 2, 1) := dk_28 (dk_at dksX1_word_0 18 rfl rfl)
theorem dX1_word_19 : decode cX1_word 19 = .ok (.bipush 16, 2) := dk_16 16 (dk_at dksX1_word_0 19 rfl rfl)
theorem dX1_word_21 : decode cX1_word 21 = .ok (.ishr, 1) := dk_122 (dk_at dksX1_word_0 21 rfl rfl)
theorem dX1_word_22 : decode cX1_word 22 = .ok (.i2b, 1) := dk_145 (dk_at dksX1_word_0 22 rfl rfl)
theorem dX1_word_23 : decode cX1_word 23 = .ok (.bastore, 1) := dk_84 (dk_at dksX1_word_0 23 rfl rfl)
theorem dX1_word_24 : decode cX1_word 24 = .ok (.aload_n 0, 1) := dk_42 (dk_at dksX1_word_1 0 rfl rfl)
theorem dX1_word_25 : decode cX1_word 25 = .ok (.getfield 7, 3) := dk_180 0 7 (dk_at dksX1_word_1 1 rfl rfl)
theorem dX1_word_28 : decode cX1_word 28 = .ok (.iload_n 1, 1) := dk_27 (dk_at dksX1_word_1 4 rfl rfl)
theorem dX1_word_29 : decode cX1_word 29 = .ok (.iconst 2, 1) := dk_5 (dk_at dksX1_word_1 5 rfl rfl)
theorem dX1_word_30 : decode cX1_word 30 = .ok (.iadd, 1) := dk_96 (dk_at dksX1_word_1 6 rfl rfl)
theorem dX1_word_31 : decode cX1_word 31 = .ok (.iload_n 2, 1) := dk_28 (dk_at dksX1_word_1 7 rfl rfl)
theorem dX1_word_32 : decode cX1_word 32 = .ok (.bipush 8, 2) := dk_16 8 (dk_at dksX1_word_1 8 rfl rfl)
theorem dX1_word_34 : decode cX1_word 34 = .ok (.ishr, 1) := dk_122 (dk_at dksX1_word_1 10 rfl rfl)
theorem dX1_word_35 : decode cX1_word 35 = .ok (.i2b, 1) := dk_145 (dk_at dksX1_word_1 11 rfl rfl)
theorem dX1_word_36 : decode cX1_word 36 = .ok (.bastore, 1) := dk_84 (dk_at dksX1_word_1 12 rfl rfl)
theorem dX1_word_37 : decode cX1_word 37 = .ok (.aload_n 0, 1) := dk_42 (dk_at dksX1_word_1 13 rfl rfl)
theorem dX1_word_38 : decode cX1_word 38 = .ok (.getfield 7, 3) := dk_180 0 7 (dk_at dksX1_word_1 14 rfl rfl)
theorem dX1_word_41 : decode cX1_word 41 = .ok (.iload_n 1, 1) := dk_27 (dk_at dksX1_word_1 17 rfl rfl)
theorem dX1_word_42 : decode cX1_word 42 = .ok (.iconst 3, 1) := dk_6 (dk_at dksX1_word_1 18 rfl rfl)
theorem dX1_word_43 : decode cX1_word 43 = .ok (.iadd, 1) := dk_96 (dk_at dksX1_word_1 19 rfl rfl)
theorem dX1_word_44 : decode cX1_word 44 = .ok (.iload_n 2, 1) := dk_28 (dk_at dksX1_word_1 20 rfl rfl)
theorem dX1_word_45 : decode cX1_word 45 = .ok (.i2b, 1) := dk_145 (dk_at dksX1_word_1 21 rfl rfl)
theorem dX1_word_46 : decode cX1_word 46 = .ok (.bastore, 1) := dk_84 (dk_at dksX1_word_1 22 rfl rfl)
theorem dX1_word_47 : decode cX1_word 47 = .ok (.return_, 1) := dk_177 (dk_at dksX1_word_1 23 rfl rfl)
abbrev cX1_begin : ByteArray := prog_1_method_8_code
def yX1_begin : MethodName := ⟨RX1, "begin", "()V"⟩
def dkwX1_begin_1 : List UInt8 := [51, 84, 132, 2, 1, 167, 255, 236, 42, 187, 0, 13, 89, 43, 183, 0, 15, 181, 0, 18, 177]
abbrev dktX1_begin_1 : List UInt8 := dkwX1_begin_1 ++ []
def dkwX1_begin_0 : List UInt8 := [42, 180, 0, 22, 188, 8, 76, 3, 61, 28, 42, 180, 0, 22, 162, 0, 18, 43, 28, 42, 180, 0, 7, 28]
abbrev dktX1_begin_0 : List UInt8 := dkwX1_begin_0 ++ dktX1_begin_1
theorem dksX1_begin_0 : cX1_begin.data.toList.drop 0 = dktX1_begin_0 := by decide +kernel
theorem dksX1_begin_1 : cX1_begin.data.toList.drop 24 = dktX1_begin_1 := dk_seg dksX1_begin_0 24 rfl rfl
theorem dX1_begin_0 : decode cX1_begin 0 = .ok (.aload_n 0, 1) := dk_42 (dk_at dksX1_begin_0 0 rfl rfl)
theorem dX1_begin_1 : decode cX1_begin 1 = .ok (.getfield 22, 3) := dk_180 0 22 (dk_at dksX1_begin_0 1 rfl rfl)
theorem dX1_begin_4 : decode cX1_begin 4 = .ok (.newarray .byte, 2) := dk_188_8 (dk_at dksX1_begin_0 4 rfl rfl)
theorem dX1_begin_6 : decode cX1_begin 6 = .ok (.astore_n 1, 1) := dk_76 (dk_at dksX1_begin_0 6 rfl rfl)
theorem dX1_begin_7 : decode cX1_begin 7 = .ok (.iconst 0, 1) := dk_3 (dk_at dksX1_begin_0 7 rfl rfl)
theorem dX1_begin_8 : decode cX1_begin 8 = .ok (.istore_n 2, 1) := dk_61 (dk_at dksX1_begin_0 8 rfl rfl)
theorem dX1_begin_9 : decode cX1_begin 9 = .ok (.iload_n 2, 1) := dk_28 (dk_at dksX1_begin_0 9 rfl rfl)
theorem dX1_begin_10 : decode cX1_begin 10 = .ok (.aload_n 0, 1) := dk_42 (dk_at dksX1_begin_0 10 rfl rfl)
theorem dX1_begin_11 : decode cX1_begin 11 = .ok (.getfield 22, 3) := dk_180 0 22 (dk_at dksX1_begin_0 11 rfl rfl)
theorem dX1_begin_14 : decode cX1_begin 14 = .ok (.if_icmp .ge 18, 3) := dk_162 0 18 (dk_at dksX1_begin_0 14 rfl rfl)
theorem dX1_begin_17 : decode cX1_begin 17 = .ok (.aload_n 1, 1) := dk_43 (dk_at dksX1_begin_0 17 rfl rfl)
theorem dX1_begin_18 : decode cX1_begin 18 = .ok (.iload_n 2, 1) := dk_28 (dk_at dksX1_begin_0 18 rfl rfl)
theorem dX1_begin_19 : decode cX1_begin 19 = .ok (.aload_n 0, 1) := dk_42 (dk_at dksX1_begin_0 19 rfl rfl)
theorem dX1_begin_20 : decode cX1_begin 20 = .ok (.getfield 7, 3) := dk_180 0 7 (dk_at dksX1_begin_0 20 rfl rfl)
theorem dX1_begin_23 : decode cX1_begin 23 = .ok (.iload_n 2, 1) := dk_28 (dk_at dksX1_begin_0 23 rfl rfl)
theorem dX1_begin_24 : decode cX1_begin 24 = .ok (.baload, 1) := dk_51 (dk_at dksX1_begin_1 0 rfl rfl)
theorem dX1_begin_25 : decode cX1_begin 25 = .ok (.bastore, 1) := dk_84 (dk_at dksX1_begin_1 1 rfl rfl)
theorem dX1_begin_26 : decode cX1_begin 26 = .ok (.iinc 2 1, 3) := dk_132 2 1 (dk_at dksX1_begin_1 2 rfl rfl)
theorem dX1_begin_29 : decode cX1_begin 29 = .ok (.goto (-20), 3) := dk_167 255 236 (dk_at dksX1_begin_1 5 rfl rfl)
theorem dX1_begin_32 : decode cX1_begin 32 = .ok (.aload_n 0, 1) := dk_42 (dk_at dksX1_begin_1 8 rfl rfl)
theorem dX1_begin_33 : decode cX1_begin 33 = .ok (.new 13, 3) := dk_187 0 13 (dk_at dksX1_begin_1 9 rfl rfl)
theorem dX1_begin_36 : decode cX1_begin 36 = .ok (.dup, 1) := dk_89 (dk_at dksX1_begin_1 12 rfl rfl)
theorem dX1_begin_37 : decode cX1_begin 37 = .ok (.aload_n 1, 1) := dk_43 (dk_at dksX1_begin_1 13 rfl rfl)
theorem dX1_begin_38 : decode cX1_begin 38 = .ok (.invokespecial 15, 3) := dk_183 0 15 (dk_at dksX1_begin_1 14 rfl rfl)
theorem dX1_begin_41 : decode cX1_begin 41 = .ok (.putfield 18, 3) := dk_181 0 18 (dk_at dksX1_begin_1 17 rfl rfl)
theorem dX1_begin_44 : decode cX1_begin 44 = .ok (.return_, 1) := dk_177 (dk_at dksX1_begin_1 20 rfl rfl)
abbrev cX1_read : ByteArray := prog_1_method_10_code
def yX1_read : MethodName := ⟨RX1, "read", "(I)J"⟩
def dkwX1_read_1 : List UInt8 := [42, 180, 0, 18, 28, 182, 0, 41, 133, 173]
abbrev dktX1_read_1 : List UInt8 := dkwX1_read_1 ++ []
def dkwX1_read_0 : List UInt8 := [4, 27, 16, 31, 126, 96, 61, 28, 42, 180, 0, 18, 182, 0, 35, 164, 0, 9, 20, 0, 39, 167, 0, 12]
abbrev dktX1_read_0 : List UInt8 := dkwX1_read_0 ++ dktX1_read_1
theorem dksX1_read_0 : cX1_read.data.toList.drop 0 = dktX1_read_0 := by decide +kernel
theorem dksX1_read_1 : cX1_read.data.toList.drop 24 = dktX1_read_1 := dk_seg dksX1_read_0 24 rfl rfl
theorem dX1_read_0 : decode cX1_read 0 = .ok (.iconst 1, 1) := dk_4 (dk_at dksX1_read_0 0 rfl rfl)
theorem dX1_read_1 : decode cX1_read 1 = .ok (.iload_n 1, 1) := dk_27 (dk_at dksX1_read_0 1 rfl rfl)
theorem dX1_read_2 : decode cX1_read 2 = .ok (.bipush 31, 2) := dk_16 31 (dk_at dksX1_read_0 2 rfl rfl)
theorem dX1_read_4 : decode cX1_read 4 = .ok (.iand, 1) := dk_126 (dk_at dksX1_read_0 4 rfl rfl)
theorem dX1_read_5 : decode cX1_read 5 = .ok (.iadd, 1) := dk_96 (dk_at dksX1_read_0 5 rfl rfl)
theorem dX1_read_6 : decode cX1_read 6 = .ok (.istore_n 2, 1) := dk_61 (dk_at dksX1_read_0 6 rfl rfl)
theorem dX1_read_7 : decode cX1_read 7 = .ok (.iload_n 2, 1) := dk_28 (dk_at dksX1_read_0 7 rfl rfl)
theorem dX1_read_8 : decode cX1_read 8 = .ok (.aload_n 0, 1) := dk_42 (dk_at dksX1_read_0 8 rfl rfl)
theorem dX1_read_9 : decode cX1_read 9 = .ok (.getfield 18, 3) := dk_180 0 18 (dk_at dksX1_read_0 9 rfl rfl)
theorem dX1_read_12 : decode cX1_read 12 = .ok (.invokevirtual 35, 3) := dk_182 0 35 (dk_at dksX1_read_0 12 rfl rfl)
theorem dX1_read_15 : decode cX1_read 15 = .ok (.if_icmp .le 9, 3) := dk_164 0 9 (dk_at dksX1_read_0 15 rfl rfl)
theorem dX1_read_18 : decode cX1_read 18 = .ok (.ldc2_w 39, 3) := dk_20 0 39 (dk_at dksX1_read_0 18 rfl rfl)
theorem dX1_read_21 : decode cX1_read 21 = .ok (.goto 12, 3) := dk_167 0 12 (dk_at dksX1_read_0 21 rfl rfl)
theorem dX1_read_24 : decode cX1_read 24 = .ok (.aload_n 0, 1) := dk_42 (dk_at dksX1_read_1 0 rfl rfl)
theorem dX1_read_25 : decode cX1_read 25 = .ok (.getfield 18, 3) := dk_180 0 18 (dk_at dksX1_read_1 1 rfl rfl)
theorem dX1_read_28 : decode cX1_read 28 = .ok (.iload_n 2, 1) := dk_28 (dk_at dksX1_read_1 4 rfl rfl)
theorem dX1_read_29 : decode cX1_read 29 = .ok (.invokevirtual 41, 3) := dk_182 0 41 (dk_at dksX1_read_1 5 rfl rfl)
theorem dX1_read_32 : decode cX1_read 32 = .ok (.i2l, 1) := dk_133 (dk_at dksX1_read_1 8 rfl rfl)
theorem dX1_read_33 : decode cX1_read 33 = .ok (.lreturn, 1) := dk_173 (dk_at dksX1_read_1 9 rfl rfl)
abbrev cX1_left : ByteArray := prog_1_method_9_code
def yX1_left : MethodName := ⟨RX1, "left", "()I"⟩
def dkwX1_left_0 : List UInt8 := [42, 180, 0, 18, 182, 0, 35, 172]
abbrev dktX1_left_0 : List UInt8 := dkwX1_left_0 ++ []
theorem dksX1_left_0 : cX1_left.data.toList.drop 0 = dktX1_left_0 := by decide +kernel
theorem dX1_left_0 : decode cX1_left 0 = .ok (.aload_n 0, 1) := dk_42 (dk_at dksX1_left_0 0 rfl rfl)
theorem dX1_left_1 : decode cX1_left 1 = .ok (.getfield 18, 3) := dk_180 0 18 (dk_at dksX1_left_0 1 rfl rfl)
theorem dX1_left_4 : decode cX1_left 4 = .ok (.invokevirtual 35, 3) := dk_182 0 35 (dk_at dksX1_left_0 4 rfl rfl)
theorem dX1_left_7 : decode cX1_left 7 = .ok (.ireturn, 1) := dk_172 (dk_at dksX1_left_0 7 rfl rfl)
abbrev cX1_octet : ByteArray := prog_1_method_11_code
def yX1_octet : MethodName := ⟨RX1, "octet", "()I"⟩
def dkwX1_octet_0 : List UInt8 := [42, 180, 0, 18, 182, 0, 44, 172]
abbrev dktX1_octet_0 : List UInt8 := dkwX1_octet_0 ++ []
theorem dksX1_octet_0 : cX1_octet.data.toList.drop 0 = dktX1_octet_0 := by decide +kernel
theorem dX1_octet_0 : decode cX1_octet 0 = .ok (.aload_n 0, 1) := dk_42 (dk_at dksX1_octet_0 0 rfl rfl)
theorem dX1_octet_1 : decode cX1_octet 1 = .ok (.getfield 18, 3) := dk_180 0 18 (dk_at dksX1_octet_0 1 rfl rfl)
theorem dX1_octet_4 : decode cX1_octet 4 = .ok (.invokevirtual 44, 3) := dk_182 0 44 (dk_at dksX1_octet_0 4 rfl rfl)
theorem dX1_octet_7 : decode cX1_octet 7 = .ok (.ireturn, 1) := dk_172 (dk_at dksX1_octet_0 7 rfl rfl)
abbrev cX1_bit : ByteArray := prog_1_method_12_code
def yX1_bit : MethodName := ⟨RX1, "bit", "()I"⟩
def dkwX1_bit_0 : List UInt8 := [42, 180, 0, 18, 182, 0, 47, 172]
abbrev dktX1_bit_0 : List UInt8 := dkwX1_bit_0 ++ []
theorem dksX1_bit_0 : cX1_bit.data.toList.drop 0 = dktX1_bit_0 := by decide +kernel
theorem dX1_bit_0 : decode cX1_bit 0 = .ok (.aload_n 0, 1) := dk_42 (dk_at dksX1_bit_0 0 rfl rfl)
theorem dX1_bit_1 : decode cX1_bit 1 = .ok (.getfield 18, 3) := dk_180 0 18 (dk_at dksX1_bit_0 1 rfl rfl)
theorem dX1_bit_4 : decode cX1_bit 4 = .ok (.invokevirtual 47, 3) := dk_182 0 47 (dk_at dksX1_bit_0 4 rfl rfl)
theorem dX1_bit_7 : decode cX1_bit 7 = .ok (.ireturn, 1) := dk_172 (dk_at dksX1_bit_0 7 rfl rfl)
abbrev cX1_size : ByteArray := prog_1_method_5_code
def yX1_size : MethodName := ⟨RX1, "size", "()I"⟩
theorem dX1_size_0 : decode cX1_size 0 = .ok (.aload_n 0, 1) := by decide +kernel
theorem dX1_size_1 : decode cX1_size 1 = .ok (.getfield 22, 3) := by decide +kernel
theorem dX1_size_4 : decode cX1_size 4 = .ok (.ireturn, 1) := by decide +kernel
abbrev cX1_trim : ByteArray := prog_1_method_4_code
def yX1_trim : MethodName := ⟨RX1, "trim", "(I)V"⟩
def dkwX1_trim_0 : List UInt8 := [42, 42, 27, 182, 0, 30, 181, 0, 22, 177]
abbrev dktX1_trim_0 : List UInt8 := dkwX1_trim_0 ++ []
theorem dksX1_trim_0 : cX1_trim.data.toList.drop 0 = dktX1_trim_0 := by decide +kernel
theorem dX1_trim_0 : decode cX1_trim 0 = .ok (.aload_n 0, 1) := dk_42 (dk_at dksX1_trim_0 0 rfl rfl)
theorem dX1_trim_1 : decode cX1_trim 1 = .ok (.aload_n 0, 1) := dk_42 (dk_at dksX1_trim_0 1 rfl rfl)
theorem dX1_trim_2 : decode cX1_trim 2 = .ok (.iload_n 1, 1) := dk_27 (dk_at dksX1_trim_0 2 rfl rfl)
theorem dX1_trim_3 : decode cX1_trim 3 = .ok (.invokevirtual 30, 3) := dk_182 0 30 (dk_at dksX1_trim_0 3 rfl rfl)
theorem dX1_trim_6 : decode cX1_trim 6 = .ok (.putfield 22, 3) := dk_181 0 22 (dk_at dksX1_trim_0 6 rfl rfl)
theorem dX1_trim_9 : decode cX1_trim 9 = .ok (.return_, 1) := dk_177 (dk_at dksX1_trim_0 9 rfl rfl)
abbrev cX1_from : ByteArray := prog_1_method_6_code
def yX1_from : MethodName := ⟨RX1, "from", "(I)I"⟩
def dkwX1_from_0 : List UInt8 := [27, 18, 34, 126, 42, 180, 0, 22, 4, 96, 112, 172]
abbrev dktX1_from_0 : List UInt8 := dkwX1_from_0 ++ []
theorem dksX1_from_0 : cX1_from.data.toList.drop 0 = dktX1_from_0 := by decide +kernel
theorem dX1_from_0 : decode cX1_from 0 = .ok (.iload_n 1, 1) := dk_27 (dk_at dksX1_from_0 0 rfl rfl)
theorem dX1_from_1 : decode cX1_from 1 = .ok (.ldc 34, 2) := dk_18 34 (dk_at dksX1_from_0 1 rfl rfl)
theorem dX1_from_3 : decode cX1_from 3 = .ok (.iand, 1) := dk_126 (dk_at dksX1_from_0 3 rfl rfl)
theorem dX1_from_4 : decode cX1_from 4 = .ok (.aload_n 0, 1) := dk_42 (dk_at dksX1_from_0 4 rfl rfl)
theorem dX1_from_5 : decode cX1_from 5 = .ok (.getfield 22, 3) := dk_180 0 22 (dk_at dksX1_from_0 5 rfl rfl)
theorem dX1_from_8 : decode cX1_from 8 = .ok (.iconst 1, 1) := dk_4 (dk_at dksX1_from_0 8 rfl rfl)
theorem dX1_from_9 : decode cX1_from 9 = .ok (.iadd, 1) := dk_96 (dk_at dksX1_from_0 9 rfl rfl)
theorem dX1_from_10 : decode cX1_from 10 = .ok (.irem, 1) := dk_112 (dk_at dksX1_from_0 10 rfl rfl)
theorem dX1_from_11 : decode cX1_from 11 = .ok (.ireturn, 1) := dk_172 (dk_at dksX1_from_0 11 rfl rfl)
theorem q4 : (Jvm.Cond.initialized "BitReader") ∈ lw_all := lw_g (lw_at lw_m0 1 rfl) rfl
theorem q18 : (Jvm.Cond.instantiable "BitReader" (3 : Nat)) ∈ lw_all := lw_g (lw_at lw_m0 15 rfl) rfl
theorem q20 : (Jvm.Cond.instanceMethod ({ cls := "BitReader", name := "<init>", desc := "()V" } : Jvm.MethodName)) ∈ lw_all := lw_g (lw_at lw_m0 17 rfl) rfl
theorem q21 : (Jvm.Cond.code ({ cls := "BitReader", name := "<init>", desc := "()V" } : Jvm.MethodName) prog_1_method_1_code (1 : Nat) (Option.none : Option Jvm.ClassFile.FieldType)) ∈ lw_all := lw_g (lw_at lw_m0 18 rfl) rfl
theorem q22 : (Jvm.Cond.methodLink "BitReader" (1 : Nat) ({ cls := "java/lang/Object", name := "<init>", desc := "()V" } : Jvm.MethodName)) ∈ lw_all := lw_g (lw_at lw_m0 19 rfl) rfl
theorem q25 : (Jvm.Cond.classLink "BitReader" (13 : Nat) "BitSource") ∈ lw_all := lw_g (lw_at lw_m0 22 rfl) rfl
theorem q27 : (Jvm.Cond.methodLink "BitReader" (15 : Nat) ({ cls := "BitSource", name := "<init>", desc := "([B)V" } : Jvm.MethodName)) ∈ lw_all := lw_g (lw_at lw_m0 24 rfl) rfl
theorem q42 : (Jvm.Cond.fieldLink "BitReader" (7 : Nat) "BitReader" "text" "[B") ∈ lw_all := lw_g (lw_at lw_m0 39 rfl) rfl
theorem q43 : (Jvm.Cond.fieldLink "BitReader" (22 : Nat) "BitReader" "size" "I") ∈ lw_all := lw_g (lw_at lw_m0 40 rfl) rfl
theorem q44 : (Jvm.Cond.fieldLink "BitReader" (18 : Nat) "BitReader" "source" "LBitSource;") ∈ lw_all := lw_g (lw_at lw_m0 41 rfl) rfl
theorem q45 : (Jvm.Cond.laysFinal "BitReader" "BitReader" "text" "[B") ∈ lw_all := lw_g (lw_at lw_m0 42 rfl) rfl
theorem q46 : (Jvm.Cond.soleField "BitReader" "text") ∈ lw_all := lw_g (lw_at lw_m0 43 rfl) rfl
theorem q47 : (Jvm.Cond.lays "BitReader" "BitReader" "size" "I") ∈ lw_all := lw_g (lw_at lw_m0 44 rfl) rfl
theorem q48 : (Jvm.Cond.soleField "BitReader" "size") ∈ lw_all := lw_g (lw_at lw_m0 45 rfl) rfl
theorem q49 : (Jvm.Cond.lays "BitReader" "BitReader" "source" "LBitSource;") ∈ lw_all := lw_g (lw_at lw_m0 46 rfl) rfl
theorem q50 : (Jvm.Cond.soleField "BitReader" "source") ∈ lw_all := lw_g (lw_at lw_m0 47 rfl) rfl
theorem q51 : (Jvm.Cond.superclass "BitReader" "java/lang/Object") ∈ lw_all := lw_g (lw_at lw_m0 48 rfl) rfl
theorem q56 : (Jvm.Cond.instanceMethod ({ cls := "BitReader", name := "put", desc := "(IIII)Z" } : Jvm.MethodName)) ∈ lw_all := lw_g (lw_at lw_m0 53 rfl) rfl
theorem q57 : (Jvm.Cond.selects "BitReader" ({ cls := "BitReader", name := "put", desc := "(IIII)Z" } : Jvm.MethodName) ({ cls := "BitReader", name := "put", desc := "(IIII)Z" } : Jvm.MethodName)) ∈ lw_all := lw_g (lw_at lw_m0 54 rfl) rfl
theorem q58 : (Jvm.Cond.code ({ cls := "BitReader", name := "put", desc := "(IIII)Z" } : Jvm.MethodName) prog_1_method_2_code (5 : Nat) (Option.some Jvm.ClassFile.FieldType.boolean)) ∈ lw_all := lw_g (lw_at lw_m0 55 rfl) rfl
theorem q59 : (Jvm.Cond.methodLink "BitReader" (26 : Nat) ({ cls := "BitReader", name := "word", desc := "(II)V" } : Jvm.MethodName)) ∈ lw_all := lw_g (lw_at lw_m0 56 rfl) rfl
theorem q60 : (Jvm.Cond.privateMethod ({ cls := "BitReader", name := "word", desc := "(II)V" } : Jvm.MethodName)) ∈ lw_tbl := lw_at lw_m0 57 rfl
theorem q61 : (Jvm.Cond.instanceMethod ({ cls := "BitReader", name := "word", desc := "(II)V" } : Jvm.MethodName)) ∈ lw_all := lw_g (lw_at lw_m0 58 rfl) rfl
theorem q62 : (Jvm.Cond.code ({ cls := "BitReader", name := "word", desc := "(II)V" } : Jvm.MethodName) prog_1_method_3_code (3 : Nat) (Option.none : Option Jvm.ClassFile.FieldType)) ∈ lw_all := lw_g (lw_at lw_m0 59 rfl) rfl
theorem q64 : (Jvm.Cond.instanceMethod ({ cls := "BitReader", name := "begin", desc := "()V" } : Jvm.MethodName)) ∈ lw_all := lw_g (lw_at lw_m0 61 rfl) rfl
theorem q65 : (Jvm.Cond.selects "BitReader" ({ cls := "BitReader", name := "begin", desc := "()V" } : Jvm.MethodName) ({ cls := "BitReader", name := "begin", desc := "()V" } : Jvm.MethodName)) ∈ lw_all := lw_g (lw_at lw_m0 62 rfl) rfl
theorem q66 : (Jvm.Cond.code ({ cls := "BitReader", name := "begin", desc := "()V" } : Jvm.MethodName) prog_1_method_8_code (3 : Nat) (Option.none : Option Jvm.ClassFile.FieldType)) ∈ lw_all := lw_g (lw_at lw_m0 63 rfl) rfl
theorem q68 : (Jvm.Cond.instanceMethod ({ cls := "BitReader", name := "read", desc := "(I)J" } : Jvm.MethodName)) ∈ lw_all := lw_g (lw_at lw_m0 65 rfl) rfl
theorem q69 : (Jvm.Cond.selects "BitReader" ({ cls := "BitReader", name := "read", desc := "(I)J" } : Jvm.MethodName) ({ cls := "BitReader", name := "read", desc := "(I)J" } : Jvm.MethodName)) ∈ lw_all := lw_g (lw_at lw_m0 66 rfl) rfl
theorem q70 : (Jvm.Cond.code ({ cls := "BitReader", name := "read", desc := "(I)J" } : Jvm.MethodName) prog_1_method_10_code (3 : Nat) (Option.some Jvm.ClassFile.FieldType.long)) ∈ lw_all := lw_g (lw_at lw_m0 67 rfl) rfl
theorem q71 : (Jvm.Cond.methodLink "BitReader" (35 : Nat) ({ cls := "BitSource", name := "available", desc := "()I" } : Jvm.MethodName)) ∈ lw_all := lw_g (lw_at lw_m0 68 rfl) rfl
theorem q75 : (Jvm.Cond.constantLong "BitReader" (39 : Nat) (4294967296 : Int64)) ∈ lw_all := lw_g (lw_at lw_m0 72 rfl) rfl
theorem q76 : (Jvm.Cond.methodLink "BitReader" (41 : Nat) ({ cls := "BitSource", name := "readBits", desc := "(I)I" } : Jvm.MethodName)) ∈ lw_all := lw_g (lw_at lw_m0 73 rfl) rfl
theorem q150 : (Jvm.Cond.instanceMethod ({ cls := "BitReader", name := "left", desc := "()I" } : Jvm.MethodName)) ∈ lw_all := lw_g (lw_at lw_m0 147 rfl) rfl
theorem q151 : (Jvm.Cond.selects "BitReader" ({ cls := "BitReader", name := "left", desc := "()I" } : Jvm.MethodName) ({ cls := "BitReader", name := "left", desc := "()I" } : Jvm.MethodName)) ∈ lw_all := lw_g (lw_at lw_m0 148 rfl) rfl
theorem q152 : (Jvm.Cond.code ({ cls := "BitReader", name := "left", desc := "()I" } : Jvm.MethodName) prog_1_method_9_code (1 : Nat) (Option.some Jvm.ClassFile.FieldType.int)) ∈ lw_all := lw_g (lw_at lw_m0 149 rfl) rfl
theorem q156 : (Jvm.Cond.instanceMethod ({ cls := "BitReader", name := "octet", desc := "()I" } : Jvm.MethodName)) ∈ lw_all := lw_g (lw_at lw_m0 153 rfl) rfl
theorem q157 : (Jvm.Cond.selects "BitReader" ({ cls := "BitReader", name := "octet", desc := "()I" } : Jvm.MethodName) ({ cls := "BitReader", name := "octet", desc := "()I" } : Jvm.MethodName)) ∈ lw_all := lw_g (lw_at lw_m0 154 rfl) rfl
theorem q158 : (Jvm.Cond.code ({ cls := "BitReader", name := "octet", desc := "()I" } : Jvm.MethodName) prog_1_method_11_code (1 : Nat) (Option.some Jvm.ClassFile.FieldType.int)) ∈ lw_all := lw_g (lw_at lw_m0 155 rfl) rfl
theorem q159 : (Jvm.Cond.methodLink "BitReader" (44 : Nat) ({ cls := "BitSource", name := "getByteOffset", desc := "()I" } : Jvm.MethodName)) ∈ lw_all := lw_g (lw_at lw_m0 156 rfl) rfl
theorem q164 : (Jvm.Cond.instanceMethod ({ cls := "BitReader", name := "bit", desc := "()I" } : Jvm.MethodName)) ∈ lw_all := lw_g (lw_at lw_m0 161 rfl) rfl
theorem q165 : (Jvm.Cond.selects "BitReader" ({ cls := "BitReader", name := "bit", desc := "()I" } : Jvm.MethodName) ({ cls := "BitReader", name := "bit", desc := "()I" } : Jvm.MethodName)) ∈ lw_all := lw_g (lw_at lw_m0 162 rfl) rfl
theorem q166 : (Jvm.Cond.code ({ cls := "BitReader", name := "bit", desc := "()I" } : Jvm.MethodName) prog_1_method_12_code (1 : Nat) (Option.some Jvm.ClassFile.FieldType.int)) ∈ lw_all := lw_g (lw_at lw_m0 163 rfl) rfl
theorem q167 : (Jvm.Cond.methodLink "BitReader" (47 : Nat) ({ cls := "BitSource", name := "getBitOffset", desc := "()I" } : Jvm.MethodName)) ∈ lw_all := lw_g (lw_at lw_m0 164 rfl) rfl
theorem q184 : (Jvm.Cond.instanceMethod ({ cls := "BitReader", name := "size", desc := "()I" } : Jvm.MethodName)) ∈ lw_all := lw_g (lw_at lw_m0 181 rfl) rfl
theorem q185 : (Jvm.Cond.selects "BitReader" ({ cls := "BitReader", name := "size", desc := "()I" } : Jvm.MethodName) ({ cls := "BitReader", name := "size", desc := "()I" } : Jvm.MethodName)) ∈ lw_all := lw_g (lw_at lw_m0 182 rfl) rfl
theorem q186 : (Jvm.Cond.code ({ cls := "BitReader", name := "size", desc := "()I" } : Jvm.MethodName) prog_1_method_5_code (1 : Nat) (Option.some Jvm.ClassFile.FieldType.int)) ∈ lw_all := lw_g (lw_at lw_m0 183 rfl) rfl
theorem q188 : (Jvm.Cond.instanceMethod ({ cls := "BitReader", name := "trim", desc := "(I)V" } : Jvm.MethodName)) ∈ lw_all := lw_g (lw_at lw_m0 185 rfl) rfl
theorem q189 : (Jvm.Cond.selects "BitReader" ({ cls := "BitReader", name := "trim", desc := "(I)V" } : Jvm.MethodName) ({ cls := "BitReader", name := "trim", desc := "(I)V" } : Jvm.MethodName)) ∈ lw_all := lw_g (lw_at lw_m0 186 rfl) rfl
theorem q190 : (Jvm.Cond.code ({ cls := "BitReader", name := "trim", desc := "(I)V" } : Jvm.MethodName) prog_1_method_4_code (2 : Nat) (Option.none : Option Jvm.ClassFile.FieldType)) ∈ lw_all := lw_g (lw_at lw_m0 187 rfl) rfl
theorem q191 : (Jvm.Cond.methodLink "BitReader" (30 : Nat) ({ cls := "BitReader", name := "from", desc := "(I)I" } : Jvm.MethodName)) ∈ lw_all := lw_g (lw_at lw_m0 188 rfl) rfl
theorem q192 : (Jvm.Cond.privateMethod ({ cls := "BitReader", name := "from", desc := "(I)I" } : Jvm.MethodName)) ∈ lw_tbl := lw_at lw_m0 189 rfl
theorem q193 : (Jvm.Cond.instanceMethod ({ cls := "BitReader", name := "from", desc := "(I)I" } : Jvm.MethodName)) ∈ lw_all := lw_g (lw_at lw_m0 190 rfl) rfl
theorem q194 : (Jvm.Cond.code ({ cls := "BitReader", name := "from", desc := "(I)I" } : Jvm.MethodName) prog_1_method_6_code (2 : Nat) (Option.some Jvm.ClassFile.FieldType.int)) ∈ lw_all := lw_g (lw_at lw_m0 191 rfl) rfl
theorem q195 : (Jvm.Cond.constant "BitReader" (34 : Nat) (2147483647 : Int32)) ∈ lw_all := lw_g (lw_at lw_m0 192 rfl) rfl
theorem in_X1 : ∀ w ∈ wsX10, w ∈ lw_all := lw_in wsX10 [45, 47, 49] (by decide +kernel) (by decide +kernel)
theorem q41 : (Jvm.Cond.arrayClass Jvm.ClassFile.FieldType.byte) ∈ lw_all := lw_g (lw_at lw_m0 38 rfl) rfl
set_option maxRecDepth 100000
end
section
/-! BitReaderLaw -/
set_option maxRecDepth 100000
def RX0 : String := "BitReaderLaw"
abbrev cX0_elder : ByteArray := method_4_code
def yX0_elder : MethodName := ⟨RX0, "elder", "([I)Z"⟩
def dkwX0_elder_10 : List UInt8 := [132, 4, 2, 167, 255, 98, 4, 172]
abbrev dktX0_elder_10 : List UInt8 := dkwX0_elder_10 ++ []
def dkwX0_elder_9 : List UInt8 := [16, 8, 43, 182, 0, 39, 104, 43, 182, 0, 42, 96, 17, 2, 128, 29, 100, 159, 0, 5, 3, 172]
abbrev dktX0_elder_9 : List UInt8 := dkwX0_elder_9 ++ dktX0_elder_10
def dkwX0_elder_8 : List UInt8 := [29, 21, 5, 21, 6, 96, 100, 62, 43, 182, 0, 31, 29, 160, 0, 31, 44, 182, 0, 31, 29, 160, 0, 23]
abbrev dktX0_elder_8 : List UInt8 := dkwX0_elder_8 ++ dktX0_elder_9
def dkwX0_elder_7 : List UInt8 := [22, 9, 129, 44, 21, 5, 21, 6, 96, 4, 100, 182, 0, 27, 20, 0, 37, 127, 148, 153, 0, 5, 3, 172]
abbrev dktX0_elder_7 : List UInt8 := dkwX0_elder_7 ++ dktX0_elder_8
def dkwX0_elder_6 : List UInt8 := [21, 5, 4, 100, 182, 0, 27, 55, 7, 43, 21, 6, 4, 100, 182, 0, 27, 55, 9, 22, 7, 21, 6, 121]
abbrev dktX0_elder_6 : List UInt8 := dkwX0_elder_6 ++ dktX0_elder_7
def dkwX0_elder_5 : List UInt8 := [29, 164, 0, 21, 43, 29, 182, 0, 27, 20, 0, 35, 148, 154, 0, 7, 4, 167, 0, 4, 3, 172, 43]
abbrev dktX0_elder_5 : List UInt8 := dkwX0_elder_5 ++ dktX0_elder_6
def dkwX0_elder_4 : List UInt8 := [16, 15, 126, 96, 54, 5, 4, 42, 21, 4, 4, 96, 46, 16, 15, 126, 96, 54, 6, 21, 5, 21, 6, 96]
abbrev dktX0_elder_4 : List UInt8 := dkwX0_elder_4 ++ dktX0_elder_5
def dkwX0_elder_3 : List UInt8 := [29, 159, 0, 5, 3, 172, 16, 20, 54, 4, 21, 4, 4, 96, 42, 190, 162, 0, 155, 4, 42, 21, 4, 46]
abbrev dktX0_elder_3 : List UInt8 := dkwX0_elder_3 ++ dktX0_elder_4
def dkwX0_elder_2 : List UInt8 := [132, 2, 1, 167, 255, 213, 42, 184, 0, 23, 76, 42, 184, 0, 23, 77, 17, 2, 128, 62, 43, 182, 0, 31]
abbrev dktX0_elder_2 : List UInt8 := dkwX0_elder_2 ++ dktX0_elder_3
def dkwX0_elder_1 : List UInt8 := [184, 0, 10, 16, 24, 16, 8, 28, 7, 112, 104, 100, 124, 17, 0, 255, 126, 133, 148, 153, 0, 5, 3, 172]
abbrev dktX0_elder_1 : List UInt8 := dkwX0_elder_1 ++ dktX0_elder_2
def dkwX0_elder_0 : List UInt8 := [42, 184, 0, 23, 76, 3, 61, 28, 16, 80, 162, 0, 43, 43, 16, 7, 182, 0, 27, 42, 28, 7, 108]
abbrev dktX0_elder_0 : List UInt8 := dkwX0_elder_0 ++ dktX0_elder_1
theorem dksX0_elder_0 : cX0_elder.data.toList.drop 0 = dktX0_elder_0 := by decide +kernel
theorem dksX0_elder_1 : cX0_elder.data.toList.drop 23 = dktX0_elder_1 := dk_seg dksX0_elder_0 23 rfl rfl
theorem dksX0_elder_2 : cX0_elder.data.toList.drop 47 = dktX0_elder_2 := dk_seg dksX0_elder_1 24 rfl rfl
theorem dksX0_elder_3 : cX0_elder.data.toList.drop 71 = dktX0_elder_3 := dk_seg dksX0_elder_2 24 rfl rfl
theorem dksX0_elder_4 : cX0_elder.data.toList.drop 95 = dktX0_elder_4 := dk_seg dksX0_elder_3 24 rfl rfl
theorem dksX0_elder_5 : cX0_elder.data.toList.drop 119 = dktX0_elder_5 := dk_seg dksX0_elder_4 24 rfl rfl
theorem dksX0_elder_6 : cX0_elder.data.toList.drop 142 = dktX0_elder_6 := dk_seg dksX0_elder_5 23 rfl rfl
theorem dksX0_elder_7 : cX0_elder.data.toList.drop 166 = dktX0_elder_7 := dk_seg dksX0_elder_6 24 rfl rfl
theorem dksX0_elder_8 : cX0_elder.data.toList.drop 190 = dktX0_elder_8 := dk_seg dksX0_elder_7 24 rfl rfl
theorem dksX0_elder_9 : cX0_elder.data.toList.drop 214 = dktX0_elder_9 := dk_seg dksX0_elder_8 24 rfl rfl
theorem dksX0_elder_10 : cX0_elder.data.toList.drop 236 = dktX0_elder_10 := dk_seg dksX0_elder_9 22 rfl rfl
theorem dX0_elder_0 : decode cX0_elder 0 = .ok (.aload_n 0, 1) := dk_42 (dk_at dksX0_elder_0 0 rfl rfl)
theorem dX0_elder_1 : decode cX0_elder 1 = .ok (.invokestatic 23, 3) := dk_184 0 23 (dk_at dksX0_elder_0 1 rfl rfl)
theorem dX0_elder_4 : decode cX0_elder 4 = .ok (.astore_n 1, 1) := dk_76 (dk_at dksX0_elder_0 4 rfl rfl)
theorem dX0_elder_5 : decode cX0_elder 5 = .ok (.iconst 0, 1) := dk_3 (dk_at dksX0_elder_0 5 rfl rfl)
theorem dX0_elder_6 : decode cX0_elder 6 = .ok (.istore_n 2, 1) := dk_61 (dk_at dksX0_elder_0 6 rfl rfl)
theorem dX0_elder_7 : decode cX0_elder 7 = .ok (.iload_n 2, 1) := dk_28 (dk_at dksX0_elder_0 7 rfl rfl)
theorem dX0_elder_8 : decode cX0_elder 8 = .ok (.bipush 80, 2) := dk_16 80 (dk_at dksX0_elder_0 8 rfl rfl)
theorem dX0_elder_10 : decode cX0_elder 10 = .ok (.if_icmp .ge 43, 3) := dk_162 0 43 (dk_at dksX0_elder_0 10 rfl rfl)
theorem dX0_elder_13 : decode cX0_elder 13 = .ok (.aload_n 1, 1) := dk_43 (dk_at dksX0_elder_0 13 rfl rfl)
theorem dX0_elder_14 : decode cX0_elder 14 = .ok (.bipush 7, 2) := dk_16 7 (dk_at dksX0_elder_0 14 rfl rfl)
theorem dX0_elder_16 : decode cX0_elder 16 = .ok (.invokevirtual 27, 3) := dk_182 0 27 (dk_at dksX0_elder_0 16 rfl rfl)
theorem dX0_elder_19 : decode cX0_elder 19 = .ok (.aload_n 0, 1) := dk_42 (dk_at dksX0_elder_0 19 rfl rfl)
theorem dX0_elder_20 : decode cX0_elder 20 = .ok (.iload_n 2, 1) := dk_28 (dk_at dksX0_elder_0 20 rfl rfl)
theorem dX0_elder_21 : decode cX0_elder 21 = .ok (.iconst 4, 1) := dk_7 (dk_at dksX0_elder_0 21 rfl rfl)
theorem dX0_elder_22 : decode cX0_elder 22 = .ok (.idiv, 1) := dk_108 (dk_at dksX0_elder_0 22 rfl rfl)
theorem dX0_elder_23 : decode cX0_elder 23 = .ok (.invokestatic 10, 3) := dk_184 0 10 (dk_at dksX0_elder_1 0 rfl rfl)
theorem dX0_elder_26 : decode cX0_elder 26 = .ok (.bipush 24, 2) := dk_16 24 (dk_at dksX0_elder_1 3 rfl rfl)
theorem dX0_elder_28 : decode cX0_elder 28 = .ok (.bipush 8, 2) := dk_16 8 (dk_at dksX0_elder_1 5 rfl rfl)
theorem dX0_elder_30 : decode cX0_elder 30 = .ok (.iload_n 2, 1) := dk_28 (dk_at dksX0_elder_1 7 rfl rfl)
theorem dX0_elder_31 : decode cX0_elder 31 = .ok (.iconst 4, 1) := dk_7 (dk_at dksX0_elder_1 8 rfl rfl)
theorem dX0_elder_32 : decode cX0_elder 32 = .ok (.irem, 1) := dk_112 (dk_at dksX0_elder_1 9 rfl rfl)
theorem dX0_elder_33 : decode cX0_elder 33 = .ok (.imul, 1) := dk_104 (dk_at dksX0_elder_1 10 rfl rfl)
theorem dX0_elder_34 : decode cX0_elder 34 = .ok (.isub, 1) := dk_100 (dk_at dksX0_elder_1 11 rfl rfl)
theorem dX0_elder_35 : decode cX0_elder 35 = .ok (.iushr, 1) := dk_124 (dk_at dksX0_elder_1 12 rfl rfl)
theorem dX0_elder_36 : decode cX0_elder 36 = .ok (.sipush 255, 3) := dk_17 0 255 (dk_at dksX0_elder_1 13 rfl rfl)
theorem dX0_elder_39 : decode cX0_elder 39 = .ok (.iand, 1) := dk_126 (dk_at dksX0_elder_1 16 rfl rfl)
theorem dX0_elder_40 : decode cX0_elder 40 = .ok (.i2l, 1) := dk_133 (dk_at dksX0_elder_1 17 rfl rfl)
theorem dX0_elder_41 : decode cX0_elder 41 = .ok (.lcmp, 1) := dk_148 (dk_at dksX0_elder_1 18 rfl rfl)
theorem dX0_elder_42 : decode cX0_elder 42 = .ok (.ifCond .eq 5, 3) := dk_153 0 5 (dk_at dksX0_elder_1 19 rfl rfl)
theorem dX0_elder_45 : decode cX0_elder 45 = .ok (.iconst 0, 1) := dk_3 (dk_at dksX0_elder_1 22 rfl rfl)
theorem dX0_elder_46 : decode cX0_elder 46 = .ok (.ireturn, 1) := dk_172 (dk_at dksX0_elder_1 23 rfl rfl)
theorem dX0_elder_47 : decode cX0_elder 47 = .ok (.iinc 2 1, 3) := dk_132 2 1 (dk_at dksX0_elder_2 0 rfl rfl)
theorem dX0_elder_50 : decode cX0_elder 50 = .ok (.goto (-43), 3) := dk_167 255 213 (dk_at dksX0_elder_2 3 rfl rfl)
theorem dX0_elder_53 : decode cX0_elder 53 = .ok (.aload_n 0, 1) := dk_42 (dk_at dksX0_elder_2 6 rfl rfl)
theorem dX0_elder_54 : decode cX0_elder 54 = .ok (.invokestatic 23, 3) := dk_184 0 23 (dk_at dksX0_elder_2 7 rfl rfl)
theorem dX0_elder_57 : decode cX0_elder 57 = .ok (.astore_n 1, 1) := dk_76 (dk_at dksX0_elder_2 10 rfl rfl)
theorem dX0_elder_58 : decode cX0_elder 58 = .ok (.aload_n 0, 1) := dk_42 (dk_at dksX0_elder_2 11 rfl rfl)
theorem dX0_elder_59 : decode cX0_elder 59 = .ok (.invokestatic 23, 3) := dk_184 0 23 (dk_at dksX0_elder_2 12 rfl rfl)
theorem dX0_elder_62 : decode cX0_elder 62 = .ok (.astore_n 2, 1) := dk_77 (dk_at dksX0_elder_2 15 rfl rfl)
theorem dX0_elder_63 : decode cX0_elder 63 = .ok (.sipush 640, 3) := dk_17 2 128 (dk_at dksX0_elder_2 16 rfl rfl)
theorem dX0_elder_66 : decode cX0_elder 66 = .ok (.istore_n 3, 1) := dk_62 (dk_at dksX0_elder_2 19 rfl rfl)
theorem dX0_elder_67 : decode cX0_elder 67 = .ok (.aload_n 1, 1) := dk_43 (dk_at dksX0_elder_2 20 rfl rfl)
theorem dX0_elder_68 : decode cX0_elder 68 = .ok (.invokevirtual 31, 3) := dk_182 0 31 (dk_at dksX0_elder_2 21 rfl rfl)
theorem dX0_elder_71 : decode cX0_elder 71 = .ok (.iload_n 3, 1) := dk_29 (dk_at dksX0_elder_3 0 rfl rfl)
theorem dX0_elder_72 : decode cX0_elder 72 = .ok (.if_icmp .eq 5, 3) := dk_159 0 5 (dk_at dksX0_elder_3 1 rfl rfl)
theorem dX0_elder_75 : decode cX0_elder 75 = .ok (.iconst 0, 1) := dk_3 (dk_at dksX0_elder_3 4 rfl rfl)
theorem dX0_elder_76 : decode cX0_elder 76 = .ok (.ireturn, 1) := dk_172 (dk_at dksX0_elder_3 5 rfl rfl)
theorem dX0_elder_77 : decode cX0_elder 77 = .ok (.bipush 20, 2) := dk_16 20 (dk_at dksX0_elder_3 6 rfl rfl)
theorem dX0_elder_79 : decode cX0_elder 79 = .ok (.istore 4, 2) := dk_54 4 (dk_at dksX0_elder_3 8 rfl rfl)
theorem dX0_elder_81 : decode cX0_elder 81 = .ok (.iload 4, 2) := dk_21 4 (dk_at dksX0_elder_3 10 rfl rfl)
theorem dX0_elder_83 : decode cX0_elder 83 = .ok (.iconst 1, 1) := dk_4 (dk_at dksX0_elder_3 12 rfl rfl)
theorem dX0_elder_84 : decode cX0_elder 84 = .ok (.iadd, 1) := dk_96 (dk_at dksX0_elder_3 13 rfl rfl)
theorem dX0_elder_85 : decode cX0_elder 85 = .ok (.aload_n 0, 1) := dk_42 (dk_at dksX0_elder_3 14 rfl rfl)
theorem dX0_elder_86 : decode cX0_elder 86 = .ok (.arraylength, 1) := dk_190 (dk_at dksX0_elder_3 15 rfl rfl)
theorem dX0_elder_87 : decode cX0_elder 87 = .ok (.if_icmp .ge 155, 3) := dk_162 0 155 (dk_at dksX0_elder_3 16 rfl rfl)
theorem dX0_elder_90 : decode cX0_elder 90 = .ok (.iconst 1, 1) := dk_4 (dk_at dksX0_elder_3 19 rfl rfl)
theorem dX0_elder_91 : decode cX0_elder 91 = .ok (.aload_n 0, 1) := dk_42 (dk_at dksX0_elder_3 20 rfl rfl)
theorem dX0_elder_92 : decode cX0_elder 92 = .ok (.iload 4, 2) := dk_21 4 (dk_at dksX0_elder_3 21 rfl rfl)
theorem dX0_elder_94 : decode cX0_elder 94 = .ok (.iaload, 1) := dk_46 (dk_at dksX0_elder_3 23 rfl rfl)
theorem dX0_elder_95 : decode cX0_elder 95 = .ok (.bipush 15, 2) := dk_16 15 (dk_at dksX0_elder_4 0 rfl rfl)
theorem dX0_elder_97 : decode cX0_elder 97 = .ok (.iand, 1) := dk_126 (dk_at dksX0_elder_4 2 rfl rfl)
theorem dX0_elder_98 : decode cX0_elder 98 = .ok (.iadd, 1) := dk_96 (dk_at dksX0_elder_4 3 rfl rfl)
theorem dX0_elder_99 : decode cX0_elder 99 = .ok (.istore 5, 2) := dk_54 5 (dk_at dksX0_elder_4 4 rfl rfl)
theorem dX0_elder_101 : decode cX0_elder 101 = .ok (.iconst 1, 1) := dk_4 (dk_at dksX0_elder_4 6 rfl rfl)
theorem dX0_elder_102 : decode cX0_elder 102 = .ok (.aload_n 0, 1) := dk_42 (dk_at dksX0_elder_4 7 rfl rfl)
theorem dX0_elder_103 : decode cX0_elder 103 = .ok (.iload 4, 2) := dk_21 4 (dk_at dksX0_elder_4 8 rfl rfl)
theorem dX0_elder_105 : decode cX0_elder 105 = .ok (.iconst 1, 1) := dk_4 (dk_at dksX0_elder_4 10 rfl rfl)
theorem dX0_elder_106 : decode cX0_elder 106 = .ok (.iadd, 1) := dk_96 (dk_at dksX0_elder_4 11 rfl rfl)
theorem dX0_elder_107 : decode cX0_elder 107 = .ok (.iaload, 1) := dk_46 (dk_at dksX0_elder_4 12 rfl rfl)
theorem dX0_elder_108 : decode cX0_elder 108 = .ok (.bipush 15, 2) := dk_16 15 (dk_at dksX0_elder_4 13 rfl rfl)
theorem dX0_elder_110 : decode cX0_elder 110 = .ok (.iand, 1) := dk_126 (dk_at dksX0_elder_4 15 rfl rfl)
theorem dX0_elder_111 : decode cX0_elder 111 = .ok (.iadd, 1) := dk_96 (dk_at dksX0_elder_4 16 rfl rfl)
theorem dX0_elder_112 : decode cX0_elder 112 = .ok (.istore 6, 2) := dk_54 6 (dk_at dksX0_elder_4 17 rfl rfl)
theorem dX0_elder_114 : decode cX0_elder 114 = .ok (.iload 5, 2) := dk_21 5 (dk_at dksX0_elder_4 19 rfl rfl)
theorem dX0_elder_116 : decode cX0_elder 116 = .ok (.iload 6, 2) := dk_21 6 (dk_at dksX0_elder_4 21 rfl rfl)
theorem dX0_elder_118 : decode cX0_elder 118 = .ok (.iadd, 1) := dk_96 (dk_at dksX0_elder_4 23 rfl rfl)
theorem dX0_elder_119 : decode cX0_elder 119 = .ok (.iload_n 3, 1) := dk_29 (dk_at dksX0_elder_5 0 rfl rfl)
theorem dX0_elder_120 : decode cX0_elder 120 = .ok (.if_icmp .le 21, 3) := dk_164 0 21 (dk_at dksX0_elder_5 1 rfl rfl)
theorem dX0_elder_123 : decode cX0_elder 123 = .ok (.aload_n 1, 1) := dk_43 (dk_at dksX0_elder_5 4 rfl rfl)
theorem dX0_elder_124 : decode cX0_elder 124 = .ok (.iload_n 3, 1) := dk_29 (dk_at dksX0_elder_5 5 rfl rfl)
theorem dX0_elder_125 : decode cX0_elder 125 = .ok (.invokevirtual 27, 3) := dk_182 0 27 (dk_at dksX0_elder_5 6 rfl rfl)
theorem dX0_elder_128 : decode cX0_elder 128 = .ok (.ldc2_w 35, 3) := dk_20 0 35 (dk_at dksX0_elder_5 9 rfl rfl)
theorem dX0_elder_131 : decode cX0_elder 131 = .ok (.lcmp, 1) := dk_148 (dk_at dksX0_elder_5 12 rfl rfl)
theorem dX0_elder_132 : decode cX0_elder 132 = .ok (.ifCond .ne 7, 3) := dk_154 0 7 (dk_at dksX0_elder_5 13 rfl rfl)
theorem dX0_elder_135 : decode cX0_elder 135 = .ok (.iconst 1, 1) := dk_4 (dk_at dksX0_elder_5 16 rfl rfl)
theorem dX0_elder_136 : decode cX0_elder 136 = .ok (.goto 4, 3) := dk_167 0 4 (dk_at dksX0_elder_5 17 rfl rfl)
theorem dX0_elder_139 : decode cX0_elder 139 = .ok (.iconst 0, 1) := dk_3 (dk_at dksX0_elder_5 20 rfl rfl)
theorem dX0_elder_140 : decode cX0_elder 140 = .ok (.ireturn, 1) := dk_172 (dk_at dksX0_elder_5 21 rfl rfl)
theorem dX0_elder_141 : decode cX0_elder 141 = .ok (.aload_n 1, 1) := dk_43 (dk_at dksX0_elder_5 22 rfl rfl)
theorem dX0_elder_142 : decode cX0_elder 142 = .ok (.iload 5, 2) := dk_21 5 (dk_at dksX0_elder_6 0 rfl rfl)
theorem dX0_elder_144 : decode cX0_elder 144 = .ok (.iconst 1, 1) := dk_4 (dk_at dksX0_elder_6 2 rfl rfl)
theorem dX0_elder_145 : decode cX0_elder 145 = .ok (.isub, 1) := dk_100 (dk_at dksX0_elder_6 3 rfl rfl)
theorem dX0_elder_146 : decode cX0_elder 146 = .ok (.invokevirtual 27, 3) := dk_182 0 27 (dk_at dksX0_elder_6 4 rfl rfl)
theorem dX0_elder_149 : decode cX0_elder 149 = .ok (.lstore 7, 2) := dk_55 7 (dk_at dksX0_elder_6 7 rfl rfl)
theorem dX0_elder_151 : decode cX0_elder 151 = .ok (.aload_n 1, 1) := dk_43 (dk_at dksX0_elder_6 9 rfl rfl)
theorem dX0_elder_152 : decode cX0_elder 152 = .ok (.iload 6, 2) := dk_21 6 (dk_at dksX0_elder_6 10 rfl rfl)
theorem dX0_elder_154 : decode cX0_elder 154 = .ok (.iconst 1, 1) := dk_4 (dk_at dksX0_elder_6 12 rfl rfl)
theorem dX0_elder_155 : decode cX0_elder 155 = .ok (.isub, 1) := dk_100 (dk_at dksX0_elder_6 13 rfl rfl)
theorem dX0_elder_156 : decode cX0_elder 156 = .ok (.invokevirtual 27, 3) := dk_182 0 27 (dk_at dksX0_elder_6 14 rfl rfl)
theorem dX0_elder_159 : decode cX0_elder 159 = .ok (.lstore 9, 2) := dk_55 9 (dk_at dksX0_elder_6 17 rfl rfl)
theorem dX0_elder_161 : decode cX0_elder 161 = .ok (.lload 7, 2) := dk_22 7 (dk_at dksX0_elder_6 19 rfl rfl)
theorem dX0_elder_163 : decode cX0_elder 163 = .ok (.iload 6, 2) := dk_21 6 (dk_at dksX0_elder_6 21 rfl rfl)
theorem dX0_elder_165 : decode cX0_elder 165 = .ok (.lshl, 1) := dk_121 (dk_at dksX0_elder_6 23 rfl rfl)
theorem dX0_elder_166 : decode cX0_elder 166 = .ok (.lload 9, 2) := dk_22 9 (dk_at dksX0_elder_7 0 rfl rfl)
theorem dX0_elder_168 : decode cX0_elder 168 = .ok (.lor, 1) := dk_129 (dk_at dksX0_elder_7 2 rfl rfl)
theorem dX0_elder_169 : decode cX0_elder 169 = .ok (.aload_n 2, 1) := dk_44 (dk_at dksX0_elder_7 3 rfl rfl)
theorem dX0_elder_170 : decode cX0_elder 170 = .ok (.iload 5, 2) := dk_21 5 (dk_at dksX0_elder_7 4 rfl rfl)
theorem dX0_elder_172 : decode cX0_elder 172 = .ok (.iload 6, 2) := dk_21 6 (dk_at dksX0_elder_7 6 rfl rfl)
theorem dX0_elder_174 : decode cX0_elder 174 = .ok (.iadd, 1) := dk_96 (dk_at dksX0_elder_7 8 rfl rfl)
theorem dX0_elder_175 : decode cX0_elder 175 = .ok (.iconst 1, 1) := dk_4 (dk_at dksX0_elder_7 9 rfl rfl)
theorem dX0_elder_176 : decode cX0_elder 176 = .ok (.isub, 1) := dk_100 (dk_at dksX0_elder_7 10 rfl rfl)
theorem dX0_elder_177 : decode cX0_elder 177 = .ok (.invokevirtual 27, 3) := dk_182 0 27 (dk_at dksX0_elder_7 11 rfl rfl)
theorem dX0_elder_180 : decode cX0_elder 180 = .ok (.ldc2_w 37, 3) := dk_20 0 37 (dk_at dksX0_elder_7 14 rfl rfl)
theorem dX0_elder_183 : decode cX0_elder 183 = .ok (.land, 1) := dk_127 (dk_at dksX0_elder_7 17 rfl rfl)
theorem dX0_elder_184 : decode cX0_elder 184 = .ok (.lcmp, 1) := dk_148 (dk_at dksX0_elder_7 18 rfl rfl)
theorem dX0_elder_185 : decode cX0_elder 185 = .ok (.ifCond .eq 5, 3) := dk_153 0 5 (dk_at dksX0_elder_7 19 rfl rfl)
theorem dX0_elder_188 : decode cX0_elder 188 = .ok (.iconst 0, 1) := dk_3 (dk_at dksX0_elder_7 22 rfl rfl)
theorem dX0_elder_189 : decode cX0_elder 189 = .ok (.ireturn, 1) := dk_172 (dk_at dksX0_elder_7 23 rfl rfl)
theorem dX0_elder_190 : decode cX0_elder 190 = .ok (.iload_n 3, 1) := dk_29 (dk_at dksX0_elder_8 0 rfl rfl)
theorem dX0_elder_191 : decode cX0_elder 191 = .ok (.iload 5, 2) := dk_21 5 (dk_at dksX0_elder_8 1 rfl rfl)
theorem dX0_elder_193 : decode cX0_elder 193 = .ok (.iload 6, 2) := dk_21 6 (dk_at dksX0_elder_8 3 rfl rfl)
theorem dX0_elder_195 : decode cX0_elder 195 = .ok (.iadd, 1) := dk_96 (dk_at dksX0_elder_8 5 rfl rfl)
theorem dX0_elder_196 : decode cX0_elder 196 = .ok (.isub, 1) := dk_100 (dk_at dksX0_elder_8 6 rfl rfl)
theorem dX0_elder_197 : decode cX0_elder 197 = .ok (.istore_n 3, 1) := dk_62 (dk_at dksX0_elder_8 7 rfl rfl)
theorem dX0_elder_198 : decode cX0_elder 198 = .ok (.aload_n 1, 1) := dk_43 (dk_at dksX0_elder_8 8 rfl rfl)
theorem dX0_elder_199 : decode cX0_elder 199 = .ok (.invokevirtual 31, 3) := dk_182 0 31 (dk_at dksX0_elder_8 9 rfl rfl)
theorem dX0_elder_202 : decode cX0_elder 202 = .ok (.iload_n 3, 1) := dk_29 (dk_at dksX0_elder_8 12 rfl rfl)
theorem dX0_elder_203 : decode cX0_elder 203 = .ok (.if_icmp .ne 31, 3) := dk_160 0 31 (dk_at dksX0_elder_8 13 rfl rfl)
theorem dX0_elder_206 : decode cX0_elder 206 = .ok (.aload_n 2, 1) := dk_44 (dk_at dksX0_elder_8 16 rfl rfl)
theorem dX0_elder_207 : decode cX0_elder 207 = .ok (.invokevirtual 31, 3) := dk_182 0 31 (dk_at dksX0_elder_8 17 rfl rfl)
theorem dX0_elder_210 : decode cX0_elder 210 = .ok (.iload_n 3, 1) := dk_29 (dk_at dksX0_elder_8 20 rfl rfl)
theorem dX0_elder_211 : decode cX0_elder 211 = .ok (.if_icmp .ne 23, 3) := dk_160 0 23 (dk_at dksX0_elder_8 21 rfl rfl)
theorem dX0_elder_214 : decode cX0_elder 214 = .ok (.bipush 8, 2) := dk_16 8 (dk_at dksX0_elder_9 0 rfl rfl)
theorem dX0_elder_216 : decode cX0_elder 216 = .ok (.aload_n 1, 1) := dk_43 (dk_at dksX0_elder_9 2 rfl rfl)
theorem dX0_elder_217 : decode cX0_elder 217 = .ok (.invokevirtual 39, 3) := dk_182 0 39 (dk_at dksX0_elder_9 3 rfl rfl)
theorem dX0_elder_220 : decode cX0_elder 220 = .ok (.imul, 1) := dk_104 (dk_at dksX0_elder_9 6 rfl rfl)
theorem dX0_elder_221 : decode cX0_elder 221 = .ok (.aload_n 1, 1) := dk_43 (dk_at dksX0_elder_9 7 rfl rfl)
theorem dX0_elder_222 : decode cX0_elder 222 = .ok (.invokevirtual 42, 3) := dk_182 0 42 (dk_at dksX0_elder_9 8 rfl rfl)
theorem dX0_elder_225 : decode cX0_elder 225 = .ok (.iadd, 1) := dk_96 (dk_at dksX0_elder_9 11 rfl rfl)
theorem dX0_elder_226 : decode cX0_elder 226 = .ok (.sipush 640, 3) := dk_17 2 128 (dk_at dksX0_elder_9 12 rfl rfl)
theorem dX0_elder_229 : decode cX0_elder 229 = .ok (.iload_n 3, 1) := dk_29 (dk_at dksX0_elder_9 15 rfl rfl)
theorem dX0_elder_230 : decode cX0_elder 230 = .ok (.isub, 1) := dk_100 (dk_at dksX0_elder_9 16 rfl rfl)
theorem dX0_elder_231 : decode cX0_elder 231 = .ok (.if_icmp .eq 5, 3) := dk_159 0 5 (dk_at dksX0_elder_9 17 rfl rfl)
theorem dX0_elder_234 : decode cX0_elder 234 = .ok (.iconst 0, 1) := dk_3 (dk_at dksX0_elder_9 20 rfl rfl)
theorem dX0_elder_235 : decode cX0_elder 235 = .ok (.ireturn, 1) := dk_172 (dk_at dksX0_elder_9 21 rfl rfl)
theorem dX0_elder_236 : decode cX0_elder 236 = .ok (.iinc 4 2, 3) := dk_132 4 2 (dk_at dksX0_elder_10 0 rfl rfl)
theorem dX0_elder_239 : decode cX0_elder 239 = .ok (.goto (-158), 3) := dk_167 255 98 (dk_at dksX0_elder_10 3 rfl rfl)
theorem dX0_elder_242 : decode cX0_elder 242 = .ok (.iconst 1, 1) := dk_4 (dk_at dksX0_elder_10 6 rfl rfl)
theorem dX0_elder_243 : decode cX0_elder 243 = .ok (.ireturn, 1) := dk_172 (dk_at dksX0_elder_10 7 rfl rfl)
abbrev cX0_made : ByteArray := method_3_code
def yX0_made : MethodName := ⟨RX0, "made", "([I)LBitReader;"⟩
def dkwX0_made_2 : List UInt8 := [132, 2, 4, 167, 255, 216, 43, 182, 0, 20, 43, 176]
abbrev dktX0_made_2 : List UInt8 := dkwX0_made_2 ++ []
def dkwX0_made_1 : List UInt8 := [4, 96, 184, 0, 10, 42, 28, 5, 96, 184, 0, 10, 42, 28, 6, 96, 184, 0, 10, 182, 0, 16, 87]
abbrev dktX0_made_1 : List UInt8 := dkwX0_made_1 ++ dktX0_made_2
def dkwX0_made_0 : List UInt8 := [187, 0, 7, 89, 183, 0, 9, 76, 3, 61, 28, 16, 20, 162, 0, 40, 43, 42, 28, 184, 0, 10, 42, 28]
abbrev dktX0_made_0 : List UInt8 := dkwX0_made_0 ++ dktX0_made_1
theorem dksX0_made_0 : cX0_made.data.toList.drop 0 = dktX0_made_0 := by decide +kernel
theorem dksX0_made_1 : cX0_made.data.toList.drop 24 = dktX0_made_1 := dk_seg dksX0_made_0 24 rfl rfl
theorem dksX0_made_2 : cX0_made.data.toList.drop 47 = dktX0_made_2 := dk_seg dksX0_made_1 23 rfl rfl
theorem dX0_made_0 : decode cX0_made 0 = .ok (.new 7, 3) := dk_187 0 7 (dk_at dksX0_made_0 0 rfl rfl)
theorem dX0_made_3 : decode cX0_made 3 = .ok (.dup, 1) := dk_89 (dk_at dksX0_made_0 3 rfl rfl)
theorem dX0_made_4 : decode cX0_made 4 = .ok (.invokespecial 9, 3) := dk_183 0 9 (dk_at dksX0_made_0 4 rfl rfl)
theorem dX0_made_7 : decode cX0_made 7 = .ok (.astore_n 1, 1) := dk_76 (dk_at dksX0_made_0 7 rfl rfl)
theorem dX0_made_8 : decode cX0_made 8 = .ok (.iconst 0, 1) := dk_3 (dk_at dksX0_made_0 8 rfl rfl)
theorem dX0_made_9 : decode cX0_made 9 = .ok (.istore_n 2, 1) := dk_61 (dk_at dksX0_made_0 9 rfl rfl)
theorem dX0_made_10 : decode cX0_made 10 = .ok (.iload_n 2, 1) := dk_28 (dk_at dksX0_made_0 10 rfl rfl)
theorem dX0_made_11 : decode cX0_made 11 = .ok (.bipush 20, 2) := dk_16 20 (dk_at dksX0_made_0 11 rfl rfl)
theorem dX0_made_13 : decode cX0_made 13 = .ok (.if_icmp .ge 40, 3) := dk_162 0 40 (dk_at dksX0_made_0 13 rfl rfl)
theorem dX0_made_16 : decode cX0_made 16 = .ok (.aload_n 1, 1) := dk_43 (dk_at dksX0_made_0 16 rfl rfl)
theorem dX0_made_17 : decode cX0_made 17 = .ok (.aload_n 0, 1) := dk_42 (dk_at dksX0_made_0 17 rfl rfl)
theorem dX0_made_18 : decode cX0_made 18 = .ok (.iload_n 2, 1) := dk_28 (dk_at dksX0_made_0 18 rfl rfl)
theorem dX0_made_19 : decode cX0_made 19 = .ok (.invokestatic 10, 3) := dk_184 0 10 (dk_at dksX0_made_0 19 rfl rfl)
theorem dX0_made_22 : decode cX0_made 22 = .ok (.aload_n 0, 1) := dk_42 (dk_at dksX0_made_0 22 rfl rfl)
theorem dX0_made_23 : decode cX0_made 23 = .ok (.iload_n 2, 1) := dk_28 (dk_at dksX0_made_0 23 rfl rfl)
theorem dX0_made_24 : decode cX0_made 24 = .ok (.iconst 1, 1) := dk_4 (dk_at dksX0_made_1 0 rfl rfl)
theorem dX0_made_25 : decode cX0_made 25 = .ok (.iadd, 1) := dk_96 (dk_at dksX0_made_1 1 rfl rfl)
theorem dX0_made_26 : decode cX0_made 26 = .ok (.invokestatic 10, 3) := dk_184 0 10 (dk_at dksX0_made_1 2 rfl rfl)
theorem dX0_made_29 : decode cX0_made 29 = .ok (.aload_n 0, 1) := dk_42 (dk_at dksX0_made_1 5 rfl rfl)
theorem dX0_made_30 : decode cX0_made 30 = .ok (.iload_n 2, 1) := dk_28 (dk_at dksX0_made_1 6 rfl rfl)
theorem dX0_made_31 : decode cX0_made 31 = .ok (.iconst 2, 1) := dk_5 (dk_at dksX0_made_1 7 rfl rfl)
theorem dX0_made_32 : decode cX0_made 32 = .ok (.iadd, 1) := dk_96 (dk_at dksX0_made_1 8 rfl rfl)
theorem dX0_made_33 : decode cX0_made 33 = .ok (.invokestatic 10, 3) := dk_184 0 10 (dk_at dksX0_made_1 9 rfl rfl)
theorem dX0_made_36 : decode cX0_made 36 = .ok (.aload_n 0, 1) := dk_42 (dk_at dksX0_made_1 12 rfl rfl)
theorem dX0_made_37 : decode cX0_made 37 = .ok (.iload_n 2, 1) := dk_28 (dk_at dksX0_made_1 13 rfl rfl)
theorem dX0_made_38 : decode cX0_made 38 = .ok (.iconst 3, 1) := dk_6 (dk_at dksX0_made_1 14 rfl rfl)
theorem dX0_made_39 : decode cX0_made 39 = .ok (.iadd, 1) := dk_96 (dk_at dksX0_made_1 15 rfl rfl)
theorem dX0_made_40 : decode cX0_made 40 = .ok (.invokestatic 10, 3) := dk_184 0 10 (dk_at dksX0_made_1 16 rfl rfl)
theorem dX0_made_43 : decode cX0_made 43 = .ok (.invokevirtual 16, 3) := dk_182 0 16 (dk_at dksX0_made_1 19 rfl rfl)
theorem dX0_made_46 : decode cX0_made 46 = .ok (.pop, 1) := dk_87 (dk_at dksX0_made_1 22 rfl rfl)
theorem dX0_made_47 : decode cX0_made 47 = .ok (.iinc 2 4, 3) := dk_132 2 4 (dk_at dksX0_made_2 0 rfl rfl)
theorem dX0_made_50 : decode cX0_made 50 = .ok (.goto (-40), 3) := dk_167 255 216 (dk_at dksX0_made_2 3 rfl rfl)
theorem dX0_made_53 : decode cX0_made 53 = .ok (.aload_n 1, 1) := dk_43 (dk_at dksX0_made_2 6 rfl rfl)
theorem dX0_made_54 : decode cX0_made 54 = .ok (.invokevirtual 20, 3) := dk_182 0 20 (dk_at dksX0_made_2 7 rfl rfl)
theorem dX0_made_57 : decode cX0_made 57 = .ok (.aload_n 1, 1) := dk_43 (dk_at dksX0_made_2 10 rfl rfl)
theorem dX0_made_58 : decode cX0_made 58 = .ok (.areturn, 1) := dk_176 (dk_at dksX0_made_2 11 rfl rfl)
abbrev cX0_cell : ByteArray := method_2_code
def yX0_cell : MethodName := ⟨RX0, "cell", "([II)I"⟩
def dkwX0_cell_0 : List UInt8 := [27, 42, 190, 162, 0, 9, 42, 27, 46, 167, 0, 4, 3, 172]
abbrev dktX0_cell_0 : List UInt8 := dkwX0_cell_0 ++ []
theorem dksX0_cell_0 : cX0_cell.data.toList.drop 0 = dktX0_cell_0 := by decide +kernel
theorem dX0_cell_0 : decode cX0_cell 0 = .ok (.iload_n 1, 1) := dk_27 (dk_at dksX0_cell_0 0 rfl rfl)
theorem dX0_cell_1 : decode cX0_cell 1 = .ok (.aload_n 0, 1) := dk_42 (dk_at dksX0_cell_0 1 rfl rfl)
theorem dX0_cell_2 : decode cX0_cell 2 = .ok (.arraylength, 1) := dk_190 (dk_at dksX0_cell_0 2 rfl rfl)
theorem dX0_cell_3 : decode cX0_cell 3 = .ok (.if_icmp .ge 9, 3) := dk_162 0 9 (dk_at dksX0_cell_0 3 rfl rfl)
theorem dX0_cell_6 : decode cX0_cell 6 = .ok (.aload_n 0, 1) := dk_42 (dk_at dksX0_cell_0 6 rfl rfl)
theorem dX0_cell_7 : decode cX0_cell 7 = .ok (.iload_n 1, 1) := dk_27 (dk_at dksX0_cell_0 7 rfl rfl)
theorem dX0_cell_8 : decode cX0_cell 8 = .ok (.iaload, 1) := dk_46 (dk_at dksX0_cell_0 8 rfl rfl)
theorem dX0_cell_9 : decode cX0_cell 9 = .ok (.goto 4, 3) := dk_167 0 4 (dk_at dksX0_cell_0 9 rfl rfl)
theorem dX0_cell_12 : decode cX0_cell 12 = .ok (.iconst 0, 1) := dk_3 (dk_at dksX0_cell_0 12 rfl rfl)
theorem dX0_cell_13 : decode cX0_cell 13 = .ok (.ireturn, 1) := dk_172 (dk_at dksX0_cell_0 13 rfl rfl)
abbrev cX0_askedWhole : ByteArray := method_7_code
def yX0_askedWhole : MethodName := ⟨RX0, "askedWhole", "([I)Z"⟩
def dkwX0_askedWhole_12 : List UInt8 := [20, 0, 35, 148, 154, 0, 16, 43, 182, 0, 39, 16, 80, 160, 0, 7, 4, 167, 0, 4, 3, 172]
abbrev dktX0_askedWhole_12 : List UInt8 := dkwX0_askedWhole_12 ++ []
def dkwX0_askedWhole_11 : List UInt8 := [182, 0, 42, 154, 0, 41, 43, 3, 182, 0, 27, 20, 0, 35, 148, 154, 0, 29, 43, 16, 31, 182, 0, 27]
abbrev dktX0_askedWhole_11 : List UInt8 := dkwX0_askedWhole_11 ++ dktX0_askedWhole_12
def dkwX0_askedWhole_10 : List UInt8 := [61, 132, 3, 1, 167, 255, 29, 43, 182, 0, 31, 154, 0, 57, 43, 182, 0, 39, 16, 80, 160, 0, 48, 43]
abbrev dktX0_askedWhole_10 : List UInt8 := dkwX0_askedWhole_10 ++ dktX0_askedWhole_11
def dkwX0_askedWhole_9 : List UInt8 := [16, 32, 160, 0, 10, 22, 7, 136, 133, 167, 0, 5, 22, 7, 148, 153, 0, 5, 3, 172, 28, 21, 4, 96]
abbrev dktX0_askedWhole_9 : List UInt8 := dkwX0_askedWhole_9 ++ dktX0_askedWhole_10
def dkwX0_askedWhole_8 : List UInt8 := [21, 9, 16, 32, 112, 100, 124, 4, 126, 133, 129, 55, 7, 132, 9, 1, 167, 255, 216, 22, 5, 21, 4]
abbrev dktX0_askedWhole_8 : List UInt8 := dkwX0_askedWhole_8 ++ dktX0_askedWhole_9
def dkwX0_askedWhole_7 : List UInt8 := [21, 9, 28, 21, 4, 96, 162, 0, 37, 22, 7, 4, 121, 42, 21, 9, 16, 32, 108, 184, 0, 45, 16, 31]
abbrev dktX0_askedWhole_7 : List UInt8 := dkwX0_askedWhole_7 ++ dktX0_askedWhole_8
def dkwX0_askedWhole_6 : List UInt8 := [16, 8, 112, 159, 0, 5, 3, 172, 4, 54, 4, 43, 3, 182, 0, 27, 55, 5, 9, 55, 7, 28, 54, 9]
abbrev dktX0_askedWhole_6 : List UInt8 := dkwX0_askedWhole_6 ++ dktX0_askedWhole_7
def dkwX0_askedWhole_5 : List UInt8 := [17, 2, 128, 28, 100, 160, 0, 25, 43, 182, 0, 39, 28, 16, 8, 108, 160, 0, 14, 43, 182, 0, 42, 28]
abbrev dktX0_askedWhole_5 : List UInt8 := dkwX0_askedWhole_5 ++ dktX0_askedWhole_6
def dkwX0_askedWhole_4 : List UInt8 := [21, 4, 17, 2, 128, 28, 100, 164, 0, 58, 22, 5, 20, 0, 35, 148, 154, 0, 37, 43, 182, 0, 31]
abbrev dktX0_askedWhole_4 : List UInt8 := dkwX0_askedWhole_4 ++ dktX0_askedWhole_5
def dkwX0_askedWhole_3 : List UInt8 := [16, 8, 112, 159, 0, 5, 3, 172, 43, 21, 4, 4, 100, 16, 32, 29, 104, 96, 182, 0, 27, 55, 5]
abbrev dktX0_askedWhole_3 : List UInt8 := dkwX0_askedWhole_3 ++ dktX0_askedWhole_4
def dkwX0_askedWhole_2 : List UInt8 := [17, 2, 128, 28, 100, 160, 0, 25, 43, 182, 0, 39, 28, 16, 8, 108, 160, 0, 14, 43, 182, 0, 42, 28]
abbrev dktX0_askedWhole_2 : List UInt8 := dkwX0_askedWhole_2 ++ dktX0_askedWhole_3
def dkwX0_askedWhole_1 : List UInt8 := [29, 16, 20, 112, 96, 184, 0, 45, 29, 16, 7, 104, 96, 16, 31, 126, 96, 54, 4, 43, 182, 0, 31]
abbrev dktX0_askedWhole_1 : List UInt8 := dkwX0_askedWhole_1 ++ dktX0_askedWhole_2
def dkwX0_askedWhole_0 : List UInt8 := [42, 184, 0, 48, 76, 43, 182, 0, 20, 3, 61, 3, 62, 28, 17, 2, 128, 162, 0, 226, 4, 42, 16, 20]
abbrev dktX0_askedWhole_0 : List UInt8 := dkwX0_askedWhole_0 ++ dktX0_askedWhole_1
theorem dksX0_askedWhole_0 : cX0_askedWhole.data.toList.drop 0 = dktX0_askedWhole_0 := by decide +kernel
theorem dksX0_askedWhole_1 : cX0_askedWhole.data.toList.drop 24 = dktX0_askedWhole_1 := dk_seg dksX0_askedWhole_0 24 rfl rfl
theorem dksX0_askedWhole_2 : cX0_askedWhole.data.toList.drop 47 = dktX0_askedWhole_2 := dk_seg dksX0_askedWhole_1 23 rfl rfl
theorem dksX0_askedWhole_3 : cX0_askedWhole.data.toList.drop 71 = dktX0_askedWhole_3 := dk_seg dksX0_askedWhole_2 24 rfl rfl
theorem dksX0_askedWhole_4 : cX0_askedWhole.data.toList.drop 94 = dktX0_askedWhole_4 := dk_seg dksX0_askedWhole_3 23 rfl rfl
theorem dksX0_askedWhole_5 : cX0_askedWhole.data.toList.drop 117 = dktX0_askedWhole_5 := dk_seg dksX0_askedWhole_4 23 rfl rfl
theorem dksX0_askedWhole_6 : cX0_askedWhole.data.toList.drop 141 = dktX0_askedWhole_6 := dk_seg dksX0_askedWhole_5 24 rfl rfl
theorem dksX0_askedWhole_7 : cX0_askedWhole.data.toList.drop 165 = dktX0_askedWhole_7 := dk_seg dksX0_askedWhole_6 24 rfl rfl
theorem dksX0_askedWhole_8 : cX0_askedWhole.data.toList.drop 189 = dktX0_askedWhole_8 := dk_seg dksX0_askedWhole_7 24 rfl rfl
theorem dksX0_askedWhole_9 : cX0_askedWhole.data.toList.drop 212 = dktX0_askedWhole_9 := dk_seg dksX0_askedWhole_8 23 rfl rfl
theorem dksX0_askedWhole_10 : cX0_askedWhole.data.toList.drop 236 = dktX0_askedWhole_10 := dk_seg dksX0_askedWhole_9 24 rfl rfl
theorem dksX0_askedWhole_11 : cX0_askedWhole.data.toList.drop 260 = dktX0_askedWhole_11 := dk_seg dksX0_askedWhole_10 24 rfl rfl
theorem dksX0_askedWhole_12 : cX0_askedWhole.data.toList.drop 284 = dktX0_askedWhole_12 := dk_seg dksX0_askedWhole_11 24 rfl rfl
theorem dX0_askedWhole_0 : decode cX0_askedWhole 0 = .ok (.aload_n 0, 1) := dk_42 (dk_at dksX0_askedWhole_0 0 rfl rfl)
theorem dX0_askedWhole_1 : decode cX0_askedWhole 1 = .ok (.invokestatic 48, 3) := dk_184 0 48 (dk_at dksX0_askedWhole_0 1 rfl rfl)
theorem dX0_askedWhole_4 : decode cX0_askedWhole 4 = .ok (.astore_n 1, 1) := dk_76 (dk_at dksX0_askedWhole_0 4 rfl rfl)
theorem dX0_askedWhole_5 : decode cX0_askedWhole 5 = .ok (.aload_n 1, 1) := dk_43 (dk_at dksX0_askedWhole_0 5 rfl rfl)
theorem dX0_askedWhole_6 : decode cX0_askedWhole 6 = .ok (.invokevirtual 20, 3) := dk_182 0 20 (dk_at dksX0_askedWhole_0 6 rfl rfl)
theorem dX0_askedWhole_9 : decode cX0_askedWhole 9 = .ok (.iconst 0, 1) := dk_3 (dk_at dksX0_askedWhole_0 9 rfl rfl)
theorem dX0_askedWhole_10 : decode cX0_askedWhole 10 = .ok (.istore_n 2, 1) := dk_61 (dk_at dksX0_askedWhole_0 10 rfl rfl)
theorem dX0_askedWhole_11 : decode cX0_askedWhole 11 = .ok (.iconst 0, 1) := dk_3 (dk_at dksX0_askedWhole_0 11 rfl rfl)
theorem dX0_askedWhole_12 : decode cX0_askedWhole 12 = .ok (.istore_n 3, 1) := dk_62 (dk_at dksX0_askedWhole_0 12 rfl rfl)
theorem dX0_askedWhole_13 : decode cX0_askedWhole 13 = .ok (.iload_n 2, 1) := dk_28 (dk_at dksX0_askedWhole_0 13 rfl rfl)
theorem dX0_askedWhole_14 : decode cX0_askedWhole 14 = .ok (.sipush 640, 3) := dk_17 2 128 (dk_at dksX0_askedWhole_0 14 rfl rfl)
theorem dX0_askedWhole_17 : decode cX0_askedWhole 17 = .ok (.if_icmp .ge 226, 3) := dk_162 0 226 (dk_at dksX0_askedWhole_0 17 rfl rfl)
theorem dX0_askedWhole_20 : decode cX0_askedWhole 20 = .ok (.iconst 1, 1) := dk_4 (dk_at dksX0_askedWhole_0 20 rfl rfl)
theorem dX0_askedWhole_21 : decode cX0_askedWhole 21 = .ok (.aload_n 0, 1) := dk_42 (dk_at dksX0_askedWhole_0 21 rfl rfl)
theorem dX0_askedWhole_22 : decode cX0_askedWhole 22 = .ok (.bipush 20, 2) := dk_16 20 (dk_at dksX0_askedWhole_0 22 rfl rfl)
theorem dX0_askedWhole_24 : decode cX0_askedWhole 24 = .ok (.iload_n 3, 1) := dk_29 (dk_at dksX0_askedWhole_1 0 rfl rfl)
theorem dX0_askedWhole_25 : decode cX0_askedWhole 25 = .ok (.bipush 20, 2) := dk_16 20 (dk_at dksX0_askedWhole_1 1 rfl rfl)
theorem dX0_askedWhole_27 : decode cX0_askedWhole 27 = .ok (.irem, 1) := dk_112 (dk_at dksX0_askedWhole_1 3 rfl rfl)
theorem dX0_askedWhole_28 : decode cX0_askedWhole 28 = .ok (.iadd, 1) := dk_96 (dk_at dksX0_askedWhole_1 4 rfl rfl)
theorem dX0_askedWhole_29 : decode cX0_askedWhole 29 = .ok (.invokestatic 45, 3) := dk_184 0 45 (dk_at dksX0_askedWhole_1 5 rfl rfl)
theorem dX0_askedWhole_32 : decode cX0_askedWhole 32 = .ok (.iload_n 3, 1) := dk_29 (dk_at dksX0_askedWhole_1 8 rfl rfl)
theorem dX0_askedWhole_33 : decode cX0_askedWhole 33 = .ok (.bipush 7, 2) := dk_16 7 (dk_at dksX0_askedWhole_1 9 rfl rfl)
theorem dX0_askedWhole_35 : decode cX0_askedWhole 35 = .ok (.imul, 1) := dk_104 (dk_at dksX0_askedWhole_1 11 rfl rfl)
theorem dX0_askedWhole_36 : decode cX0_askedWhole 36 = .ok (.iadd, 1) := dk_96 (dk_at dksX0_askedWhole_1 12 rfl rfl)
theorem dX0_askedWhole_37 : decode cX0_askedWhole 37 = .ok (.bipush 31, 2) := dk_16 31 (dk_at dksX0_askedWhole_1 13 rfl rfl)
theorem dX0_askedWhole_39 : decode cX0_askedWhole 39 = .ok (.iand, 1) := dk_126 (dk_at dksX0_askedWhole_1 15 rfl rfl)
theorem dX0_askedWhole_40 : decode cX0_askedWhole 40 = .ok (.iadd, 1) := dk_96 (dk_at dksX0_askedWhole_1 16 rfl rfl)
theorem dX0_askedWhole_41 : decode cX0_askedWhole 41 = .ok (.istore 4, 2) := dk_54 4 (dk_at dksX0_askedWhole_1 17 rfl rfl)
theorem dX0_askedWhole_43 : decode cX0_askedWhole 43 = .ok (.aload_n 1, 1) := dk_43 (dk_at dksX0_askedWhole_1 19 rfl rfl)
theorem dX0_askedWhole_44 : decode cX0_askedWhole 44 = .ok (.invokevirtual 31, 3) := dk_182 0 31 (dk_at dksX0_askedWhole_1 20 rfl rfl)
theorem dX0_askedWhole_47 : decode cX0_askedWhole 47 = .ok (.sipush 640, 3) := dk_17 2 128 (dk_at dksX0_askedWhole_2 0 rfl rfl)
theorem dX0_askedWhole_50 : decode cX0_askedWhole 50 = .ok (.iload_n 2, 1) := dk_28 (dk_at dksX0_askedWhole_2 3 rfl rfl)
theorem dX0_askedWhole_51 : decode cX0_askedWhole 51 = .ok (.isub, 1) := dk_100 (dk_at dksX0_askedWhole_2 4 rfl rfl)
theorem dX0_askedWhole_52 : decode cX0_askedWhole 52 = .ok (.if_icmp .ne 25, 3) := dk_160 0 25 (dk_at dksX0_askedWhole_2 5 rfl rfl)
theorem dX0_askedWhole_55 : decode cX0_askedWhole 55 = .ok (.aload_n 1, 1) := dk_43 (dk_at dksX0_askedWhole_2 8 rfl rfl)
theorem dX0_askedWhole_56 : decode cX0_askedWhole 56 = .ok (.invokevirtual 39, 3) := dk_182 0 39 (dk_at dksX0_askedWhole_2 9 rfl rfl)
theorem dX0_askedWhole_59 : decode cX0_askedWhole 59 = .ok (.iload_n 2, 1) := dk_28 (dk_at dksX0_askedWhole_2 12 rfl rfl)
theorem dX0_askedWhole_60 : decode cX0_askedWhole 60 = .ok (.bipush 8, 2) := dk_16 8 (dk_at dksX0_askedWhole_2 13 rfl rfl)
theorem dX0_askedWhole_62 : decode cX0_askedWhole 62 = .ok (.idiv, 1) := dk_108 (dk_at dksX0_askedWhole_2 15 rfl rfl)
theorem dX0_askedWhole_63 : decode cX0_askedWhole 63 = .ok (.if_icmp .ne 14, 3) := dk_160 0 14 (dk_at dksX0_askedWhole_2 16 rfl rfl)
theorem dX0_askedWhole_66 : decode cX0_askedWhole 66 = .ok (.aload_n 1, 1) := dk_43 (dk_at dksX0_askedWhole_2 19 rfl rfl)
theorem dX0_askedWhole_67 : decode cX0_askedWhole 67 = .ok (.invokevirtual 42, 3) := dk_182 0 42 (dk_at dksX0_askedWhole_2 20 rfl rfl)
theorem dX0_askedWhole_70 : decode cX0_askedWhole 70 = .ok (.iload_n 2, 1) := dk_28 (dk_at dksX0_askedWhole_2 23 rfl rfl)
theorem dX0_askedWhole_71 : decode cX0_askedWhole 71 = .ok (.bipush 8, 2) := dk_16 8 (dk_at dksX0_askedWhole_3 0 rfl rfl)
theorem dX0_askedWhole_73 : decode cX0_askedWhole 73 = .ok (.irem, 1) := dk_112 (dk_at dksX0_askedWhole_3 2 rfl rfl)
theorem dX0_askedWhole_74 : decode cX0_askedWhole 74 = .ok (.if_icmp .eq 5, 3) := dk_159 0 5 (dk_at dksX0_askedWhole_3 3 rfl rfl)
theorem dX0_askedWhole_77 : decode cX0_askedWhole 77 = .ok (.iconst 0, 1) := dk_3 (dk_at dksX0_askedWhole_3 6 rfl rfl)
theorem dX0_askedWhole_78 : decode cX0_askedWhole 78 = .ok (.ireturn, 1) := dk_172 (dk_at dksX0_askedWhole_3 7 rfl rfl)
theorem dX0_askedWhole_79 : decode cX0_askedWhole 79 = .ok (.aload_n 1, 1) := dk_43 (dk_at dksX0_askedWhole_3 8 rfl rfl)
theorem dX0_askedWhole_80 : decode cX0_askedWhole 80 = .ok (.iload 4, 2) := dk_21 4 (dk_at dksX0_askedWhole_3 9 rfl rfl)
theorem dX0_askedWhole_82 : decode cX0_askedWhole 82 = .ok (.iconst 1, 1) := dk_4 (dk_at dksX0_askedWhole_3 11 rfl rfl)
theorem dX0_askedWhole_83 : decode cX0_askedWhole 83 = .ok (.isub, 1) := dk_100 (dk_at dksX0_askedWhole_3 12 rfl rfl)
theorem dX0_askedWhole_84 : decode cX0_askedWhole 84 = .ok (.bipush 32, 2) := dk_16 32 (dk_at dksX0_askedWhole_3 13 rfl rfl)
theorem dX0_askedWhole_86 : decode cX0_askedWhole 86 = .ok (.iload_n 3, 1) := dk_29 (dk_at dksX0_askedWhole_3 15 rfl rfl)
theorem dX0_askedWhole_87 : decode cX0_askedWhole 87 = .ok (.imul, 1) := dk_104 (dk_at dksX0_askedWhole_3 16 rfl rfl)
theorem dX0_askedWhole_88 : decode cX0_askedWhole 88 = .ok (.iadd, 1) := dk_96 (dk_at dksX0_askedWhole_3 17 rfl rfl)
theorem dX0_askedWhole_89 : decode cX0_askedWhole 89 = .ok (.invokevirtual 27, 3) := dk_182 0 27 (dk_at dksX0_askedWhole_3 18 rfl rfl)
theorem dX0_askedWhole_92 : decode cX0_askedWhole 92 = .ok (.lstore 5, 2) := dk_55 5 (dk_at dksX0_askedWhole_3 21 rfl rfl)
theorem dX0_askedWhole_94 : decode cX0_askedWhole 94 = .ok (.iload 4, 2) := dk_21 4 (dk_at dksX0_askedWhole_4 0 rfl rfl)
theorem dX0_askedWhole_96 : decode cX0_askedWhole 96 = .ok (.sipush 640, 3) := dk_17 2 128 (dk_at dksX0_askedWhole_4 2 rfl rfl)
theorem dX0_askedWhole_99 : decode cX0_askedWhole 99 = .ok (.iload_n 2, 1) := dk_28 (dk_at dksX0_askedWhole_4 5 rfl rfl)
theorem dX0_askedWhole_100 : decode cX0_askedWhole 100 = .ok (.isub, 1) := dk_100 (dk_at dksX0_askedWhole_4 6 rfl rfl)
theorem dX0_askedWhole_101 : decode cX0_askedWhole 101 = .ok (.if_icmp .le 58, 3) := dk_164 0 58 (dk_at dksX0_askedWhole_4 7 rfl rfl)
theorem dX0_askedWhole_104 : decode cX0_askedWhole 104 = .ok (.lload 5, 2) := dk_22 5 (dk_at dksX0_askedWhole_4 10 rfl rfl)
theorem dX0_askedWhole_106 : decode cX0_askedWhole 106 = .ok (.ldc2_w 35, 3) := dk_20 0 35 (dk_at dksX0_askedWhole_4 12 rfl rfl)
theorem dX0_askedWhole_109 : decode cX0_askedWhole 109 = .ok (.lcmp, 1) := dk_148 (dk_at dksX0_askedWhole_4 15 rfl rfl)
theorem dX0_askedWhole_110 : decode cX0_askedWhole 110 = .ok (.ifCond .ne 37, 3) := dk_154 0 37 (dk_at dksX0_askedWhole_4 16 rfl rfl)
theorem dX0_askedWhole_113 : decode cX0_askedWhole 113 = .ok (.aload_n 1, 1) := dk_43 (dk_at dksX0_askedWhole_4 19 rfl rfl)
theorem dX0_askedWhole_114 : decode cX0_askedWhole 114 = .ok (.invokevirtual 31, 3) := dk_182 0 31 (dk_at dksX0_askedWhole_4 20 rfl rfl)
theorem dX0_askedWhole_117 : decode cX0_askedWhole 117 = .ok (.sipush 640, 3) := dk_17 2 128 (dk_at dksX0_askedWhole_5 0 rfl rfl)
theorem dX0_askedWhole_120 : decode cX0_askedWhole 120 = .ok (.iload_n 2, 1) := dk_28 (dk_at dksX0_askedWhole_5 3 rfl rfl)
theorem dX0_askedWhole_121 : decode cX0_askedWhole 121 = .ok (.isub, 1) := dk_100 (dk_at dksX0_askedWhole_5 4 rfl rfl)
theorem dX0_askedWhole_122 : decode cX0_askedWhole 122 = .ok (.if_icmp .ne 25, 3) := dk_160 0 25 (dk_at dksX0_askedWhole_5 5 rfl rfl)
theorem dX0_askedWhole_125 : decode cX0_askedWhole 125 = .ok (.aload_n 1, 1) := dk_43 (dk_at dksX0_askedWhole_5 8 rfl rfl)
theorem dX0_askedWhole_126 : decode cX0_askedWhole 126 = .ok (.invokevirtual 39, 3) := dk_182 0 39 (dk_at dksX0_askedWhole_5 9 rfl rfl)
theorem dX0_askedWhole_129 : decode cX0_askedWhole 129 = .ok (.iload_n 2, 1) := dk_28 (dk_at dksX0_askedWhole_5 12 rfl rfl)
theorem dX0_askedWhole_130 : decode cX0_askedWhole 130 = .ok (.bipush 8, 2) := dk_16 8 (dk_at dksX0_askedWhole_5 13 rfl rfl)
theorem dX0_askedWhole_132 : decode cX0_askedWhole 132 = .ok (.idiv, 1) := dk_108 (dk_at dksX0_askedWhole_5 15 rfl rfl)
theorem dX0_askedWhole_133 : decode cX0_askedWhole 133 = .ok (.if_icmp .ne 14, 3) := dk_160 0 14 (dk_at dksX0_askedWhole_5 16 rfl rfl)
theorem dX0_askedWhole_136 : decode cX0_askedWhole 136 = .ok (.aload_n 1, 1) := dk_43 (dk_at dksX0_askedWhole_5 19 rfl rfl)
theorem dX0_askedWhole_137 : decode cX0_askedWhole 137 = .ok (.invokevirtual 42, 3) := dk_182 0 42 (dk_at dksX0_askedWhole_5 20 rfl rfl)
theorem dX0_askedWhole_140 : decode cX0_askedWhole 140 = .ok (.iload_n 2, 1) := dk_28 (dk_at dksX0_askedWhole_5 23 rfl rfl)
theorem dX0_askedWhole_141 : decode cX0_askedWhole 141 = .ok (.bipush 8, 2) := dk_16 8 (dk_at dksX0_askedWhole_6 0 rfl rfl)
theorem dX0_askedWhole_143 : decode cX0_askedWhole 143 = .ok (.irem, 1) := dk_112 (dk_at dksX0_askedWhole_6 2 rfl rfl)
theorem dX0_askedWhole_144 : decode cX0_askedWhole 144 = .ok (.if_icmp .eq 5, 3) := dk_159 0 5 (dk_at dksX0_askedWhole_6 3 rfl rfl)
theorem dX0_askedWhole_147 : decode cX0_askedWhole 147 = .ok (.iconst 0, 1) := dk_3 (dk_at dksX0_askedWhole_6 6 rfl rfl)
theorem dX0_askedWhole_148 : decode cX0_askedWhole 148 = .ok (.ireturn, 1) := dk_172 (dk_at dksX0_askedWhole_6 7 rfl rfl)
theorem dX0_askedWhole_149 : decode cX0_askedWhole 149 = .ok (.iconst 1, 1) := dk_4 (dk_at dksX0_askedWhole_6 8 rfl rfl)
theorem dX0_askedWhole_150 : decode cX0_askedWhole 150 = .ok (.istore 4, 2) := dk_54 4 (dk_at dksX0_askedWhole_6 9 rfl rfl)
theorem dX0_askedWhole_152 : decode cX0_askedWhole 152 = .ok (.aload_n 1, 1) := dk_43 (dk_at dksX0_askedWhole_6 11 rfl rfl)
theorem dX0_askedWhole_153 : decode cX0_askedWhole 153 = .ok (.iconst 0, 1) := dk_3 (dk_at dksX0_askedWhole_6 12 rfl rfl)
theorem dX0_askedWhole_154 : decode cX0_askedWhole 154 = .ok (.invokevirtual 27, 3) := dk_182 0 27 (dk_at dksX0_askedWhole_6 13 rfl rfl)
theorem dX0_askedWhole_157 : decode cX0_askedWhole 157 = .ok (.lstore 5, 2) := dk_55 5 (dk_at dksX0_askedWhole_6 16 rfl rfl)
theorem dX0_askedWhole_159 : decode cX0_askedWhole 159 = .ok (.lconst 0, 1) := dk_9 (dk_at dksX0_askedWhole_6 18 rfl rfl)
theorem dX0_askedWhole_160 : decode cX0_askedWhole 160 = .ok (.lstore 7, 2) := dk_55 7 (dk_at dksX0_askedWhole_6 19 rfl rfl)
theorem dX0_askedWhole_162 : decode cX0_askedWhole 162 = .ok (.iload_n 2, 1) := dk_28 (dk_at dksX0_askedWhole_6 21 rfl rfl)
theorem dX0_askedWhole_163 : decode cX0_askedWhole 163 = .ok (.istore 9, 2) := dk_54 9 (dk_at dksX0_askedWhole_6 22 rfl rfl)
theorem dX0_askedWhole_165 : decode cX0_askedWhole 165 = .ok (.iload 9, 2) := dk_21 9 (dk_at dksX0_askedWhole_7 0 rfl rfl)
theorem dX0_askedWhole_167 : decode cX0_askedWhole 167 = .ok (.iload_n 2, 1) := dk_28 (dk_at dksX0_askedWhole_7 2 rfl rfl)
theorem dX0_askedWhole_168 : decode cX0_askedWhole 168 = .ok (.iload 4, 2) := dk_21 4 (dk_at dksX0_askedWhole_7 3 rfl rfl)
theorem dX0_askedWhole_170 : decode cX0_askedWhole 170 = .ok (.iadd, 1) := dk_96 (dk_at dksX0_askedWhole_7 5 rfl rfl)
theorem dX0_askedWhole_171 : decode cX0_askedWhole 171 = .ok (.if_icmp .ge 37, 3) := dk_162 0 37 (dk_at dksX0_askedWhole_7 6 rfl rfl)
theorem dX0_askedWhole_174 : decode cX0_askedWhole 174 = .ok (.lload 7, 2) := dk_22 7 (dk_at dksX0_askedWhole_7 9 rfl rfl)
theorem dX0_askedWhole_176 : decode cX0_askedWhole 176 = .ok (.iconst 1, 1) := dk_4 (dk_at dksX0_askedWhole_7 11 rfl rfl)
theorem dX0_askedWhole_177 : decode cX0_askedWhole 177 = .ok (.lshl, 1) := dk_121 (dk_at dksX0_askedWhole_7 12 rfl rfl)
theorem dX0_askedWhole_178 : decode cX0_askedWhole 178 = .ok (.aload_n 0, 1) := dk_42 (dk_at dksX0_askedWhole_7 13 rfl rfl)
theorem dX0_askedWhole_179 : decode cX0_askedWhole 179 = .ok (.iload 9, 2) := dk_21 9 (dk_at dksX0_askedWhole_7 14 rfl rfl)
theorem dX0_askedWhole_181 : decode cX0_askedWhole 181 = .ok (.bipush 32, 2) := dk_16 32 (dk_at dksX0_askedWhole_7 16 rfl rfl)
theorem dX0_askedWhole_183 : decode cX0_askedWhole 183 = .ok (.idiv, 1) := dk_108 (dk_at dksX0_askedWhole_7 18 rfl rfl)
theorem dX0_askedWhole_184 : decode cX0_askedWhole 184 = .ok (.invokestatic 45, 3) := dk_184 0 45 (dk_at dksX0_askedWhole_7 19 rfl rfl)
theorem dX0_askedWhole_187 : decode cX0_askedWhole 187 = .ok (.bipush 31, 2) := dk_16 31 (dk_at dksX0_askedWhole_7 22 rfl rfl)
theorem dX0_askedWhole_189 : decode cX0_askedWhole 189 = .ok (.iload 9, 2) := dk_21 9 (dk_at dksX0_askedWhole_8 0 rfl rfl)
theorem dX0_askedWhole_191 : decode cX0_askedWhole 191 = .ok (.bipush 32, 2) := dk_16 32 (dk_at dksX0_askedWhole_8 2 rfl rfl)
theorem dX0_askedWhole_193 : decode cX0_askedWhole 193 = .ok (.irem, 1) := dk_112 (dk_at dksX0_askedWhole_8 4 rfl rfl)
theorem dX0_askedWhole_194 : decode cX0_askedWhole 194 = .ok (.isub, 1) := dk_100 (dk_at dksX0_askedWhole_8 5 rfl rfl)
theorem dX0_askedWhole_195 : decode cX0_askedWhole 195 = .ok (.iushr, 1) := dk_124 (dk_at dksX0_askedWhole_8 6 rfl rfl)
theorem dX0_askedWhole_196 : decode cX0_askedWhole 196 = .ok (.iconst 1, 1) := dk_4 (dk_at dksX0_askedWhole_8 7 rfl rfl)
theorem dX0_askedWhole_197 : decode cX0_askedWhole 197 = .ok (.iand, 1) := dk_126 (dk_at dksX0_askedWhole_8 8 rfl rfl)
theorem dX0_askedWhole_198 : decode cX0_askedWhole 198 = .ok (.i2l, 1) := dk_133 (dk_at dksX0_askedWhole_8 9 rfl rfl)
theorem dX0_askedWhole_199 : decode cX0_askedWhole 199 = .ok (.lor, 1) := dk_129 (dk_at dksX0_askedWhole_8 10 rfl rfl)
theorem dX0_askedWhole_200 : decode cX0_askedWhole 200 = .ok (.lstore 7, 2) := dk_55 7 (dk_at dksX0_askedWhole_8 11 rfl rfl)
theorem dX0_askedWhole_202 : decode cX0_askedWhole 202 = .ok (.iinc 9 1, 3) := dk_132 9 1 (dk_at dksX0_askedWhole_8 13 rfl rfl)
theorem dX0_askedWhole_205 : decode cX0_askedWhole 205 = .ok (.goto (-40), 3) := dk_167 255 216 (dk_at dksX0_askedWhole_8 16 rfl rfl)
theorem dX0_askedWhole_208 : decode cX0_askedWhole 208 = .ok (.lload 5, 2) := dk_22 5 (dk_at dksX0_askedWhole_8 19 rfl rfl)
theorem dX0_askedWhole_210 : decode cX0_askedWhole 210 = .ok (.iload 4, 2) := dk_21 4 (dk_at dksX0_askedWhole_8 21 rfl rfl)
theorem dX0_askedWhole_212 : decode cX0_askedWhole 212 = .ok (.bipush 32, 2) := dk_16 32 (dk_at dksX0_askedWhole_9 0 rfl rfl)
theorem dX0_askedWhole_214 : decode cX0_askedWhole 214 = .ok (.if_icmp .ne 10, 3) := dk_160 0 10 (dk_at dksX0_askedWhole_9 2 rfl rfl)
theorem dX0_askedWhole_217 : decode cX0_askedWhole 217 = .ok (.lload 7, 2) := dk_22 7 (dk_at dksX0_askedWhole_9 5 rfl rfl)
theorem dX0_askedWhole_219 : decode cX0_askedWhole 219 = .ok (.l2i, 1) := dk_136 (dk_at dksX0_askedWhole_9 7 rfl rfl)
theorem dX0_askedWhole_220 : decode cX0_askedWhole 220 = .ok (.i2l, 1) := dk_133 (dk_at dksX0_askedWhole_9 8 rfl rfl)
theorem dX0_askedWhole_221 : decode cX0_askedWhole 221 = .ok (.goto 5, 3) := dk_167 0 5 (dk_at dksX0_askedWhole_9 9 rfl rfl)
theorem dX0_askedWhole_224 : decode cX0_askedWhole 224 = .ok (.lload 7, 2) := dk_22 7 (dk_at dksX0_askedWhole_9 12 rfl rfl)
theorem dX0_askedWhole_226 : decode cX0_askedWhole 226 = .ok (.lcmp, 1) := dk_148 (dk_at dksX0_askedWhole_9 14 rfl rfl)
theorem dX0_askedWhole_227 : decode cX0_askedWhole 227 = .ok (.ifCond .eq 5, 3) := dk_153 0 5 (dk_at dksX0_askedWhole_9 15 rfl rfl)
theorem dX0_askedWhole_230 : decode cX0_askedWhole 230 = .ok (.iconst 0, 1) := dk_3 (dk_at dksX0_askedWhole_9 18 rfl rfl)
theorem dX0_askedWhole_231 : decode cX0_askedWhole 231 = .ok (.ireturn, 1) := dk_172 (dk_at dksX0_askedWhole_9 19 rfl rfl)
theorem dX0_askedWhole_232 : decode cX0_askedWhole 232 = .ok (.iload_n 2, 1) := dk_28 (dk_at dksX0_askedWhole_9 20 rfl rfl)
theorem dX0_askedWhole_233 : decode cX0_askedWhole 233 = .ok (.iload 4, 2) := dk_21 4 (dk_at dksX0_askedWhole_9 21 rfl rfl)
theorem dX0_askedWhole_235 : decode cX0_askedWhole 235 = .ok (.iadd, 1) := dk_96 (dk_at dksX0_askedWhole_9 23 rfl rfl)
theorem dX0_askedWhole_236 : decode cX0_askedWhole 236 = .ok (.istore_n 2, 1) := dk_61 (dk_at dksX0_askedWhole_10 0 rfl rfl)
theorem dX0_askedWhole_237 : decode cX0_askedWhole 237 = .ok (.iinc 3 1, 3) := dk_132 3 1 (dk_at dksX0_askedWhole_10 1 rfl rfl)
theorem dX0_askedWhole_240 : decode cX0_askedWhole 240 = .ok (.goto (-227), 3) := dk_167 255 29 (dk_at dksX0_askedWhole_10 4 rfl rfl)
theorem dX0_askedWhole_243 : decode cX0_askedWhole 243 = .ok (.aload_n 1, 1) := dk_43 (dk_at dksX0_askedWhole_10 7 rfl rfl)
theorem dX0_askedWhole_244 : decode cX0_askedWhole 244 = .ok (.invokevirtual 31, 3) := dk_182 0 31 (dk_at dksX0_askedWhole_10 8 rfl rfl)
theorem dX0_askedWhole_247 : decode cX0_askedWhole 247 = .ok (.ifCond .ne 57, 3) := dk_154 0 57 (dk_at dksX0_askedWhole_10 11 rfl rfl)
theorem dX0_askedWhole_250 : decode cX0_askedWhole 250 = .ok (.aload_n 1, 1) := dk_43 (dk_at dksX0_askedWhole_10 14 rfl rfl)
theorem dX0_askedWhole_251 : decode cX0_askedWhole 251 = .ok (.invokevirtual 39, 3) := dk_182 0 39 (dk_at dksX0_askedWhole_10 15 rfl rfl)
theorem dX0_askedWhole_254 : decode cX0_askedWhole 254 = .ok (.bipush 80, 2) := dk_16 80 (dk_at dksX0_askedWhole_10 18 rfl rfl)
theorem dX0_askedWhole_256 : decode cX0_askedWhole 256 = .ok (.if_icmp .ne 48, 3) := dk_160 0 48 (dk_at dksX0_askedWhole_10 20 rfl rfl)
theorem dX0_askedWhole_259 : decode cX0_askedWhole 259 = .ok (.aload_n 1, 1) := dk_43 (dk_at dksX0_askedWhole_10 23 rfl rfl)
theorem dX0_askedWhole_260 : decode cX0_askedWhole 260 = .ok (.invokevirtual 42, 3) := dk_182 0 42 (dk_at dksX0_askedWhole_11 0 rfl rfl)
theorem dX0_askedWhole_263 : decode cX0_askedWhole 263 = .ok (.ifCond .ne 41, 3) := dk_154 0 41 (dk_at dksX0_askedWhole_11 3 rfl rfl)
theorem dX0_askedWhole_266 : decode cX0_askedWhole 266 = .ok (.aload_n 1, 1) := dk_43 (dk_at dksX0_askedWhole_11 6 rfl rfl)
theorem dX0_askedWhole_267 : decode cX0_askedWhole 267 = .ok (.iconst 0, 1) := dk_3 (dk_at dksX0_askedWhole_11 7 rfl rfl)
theorem dX0_askedWhole_268 : decode cX0_askedWhole 268 = .ok (.invokevirtual 27, 3) := dk_182 0 27 (dk_at dksX0_askedWhole_11 8 rfl rfl)
theorem dX0_askedWhole_271 : decode cX0_askedWhole 271 = .ok (.ldc2_w 35, 3) := dk_20 0 35 (dk_at dksX0_askedWhole_11 11 rfl rfl)
theorem dX0_askedWhole_274 : decode cX0_askedWhole 274 = .ok (.lcmp, 1) := dk_148 (dk_at dksX0_askedWhole_11 14 rfl rfl)
theorem dX0_askedWhole_275 : decode cX0_askedWhole 275 = .ok (.ifCond .ne 29, 3) := dk_154 0 29 (dk_at dksX0_askedWhole_11 15 rfl rfl)
theorem dX0_askedWhole_278 : decode cX0_askedWhole 278 = .ok (.aload_n 1, 1) := dk_43 (dk_at dksX0_askedWhole_11 18 rfl rfl)
theorem dX0_askedWhole_279 : decode cX0_askedWhole 279 = .ok (.bipush 31, 2) := dk_16 31 (dk_at dksX0_askedWhole_11 19 rfl rfl)
theorem dX0_askedWhole_281 : decode cX0_askedWhole 281 = .ok (.invokevirtual 27, 3) := dk_182 0 27 (dk_at dksX0_askedWhole_11 21 rfl rfl)
theorem dX0_askedWhole_284 : decode cX0_askedWhole 284 = .ok (.ldc2_w 35, 3) := dk_20 0 35 (dk_at dksX0_askedWhole_12 0 rfl rfl)
theorem dX0_askedWhole_287 : decode cX0_askedWhole 287 = .ok (.lcmp, 1) := dk_148 (dk_at dksX0_askedWhole_12 3 rfl rfl)
theorem dX0_askedWhole_288 : decode cX0_askedWhole 288 = .ok (.ifCond .ne 16, 3) := dk_154 0 16 (dk_at dksX0_askedWhole_12 4 rfl rfl)
theorem dX0_askedWhole_291 : decode cX0_askedWhole 291 = .ok (.aload_n 1, 1) := dk_43 (dk_at dksX0_askedWhole_12 7 rfl rfl)
theorem dX0_askedWhole_292 : decode cX0_askedWhole 292 = .ok (.invokevirtual 39, 3) := dk_182 0 39 (dk_at dksX0_askedWhole_12 8 rfl rfl)
theorem dX0_askedWhole_295 : decode cX0_askedWhole 295 = .ok (.bipush 80, 2) := dk_16 80 (dk_at dksX0_askedWhole_12 11 rfl rfl)
theorem dX0_askedWhole_297 : decode cX0_askedWhole 297 = .ok (.if_icmp .ne 7, 3) := dk_160 0 7 (dk_at dksX0_askedWhole_12 13 rfl rfl)
theorem dX0_askedWhole_300 : decode cX0_askedWhole 300 = .ok (.iconst 1, 1) := dk_4 (dk_at dksX0_askedWhole_12 16 rfl rfl)
theorem dX0_askedWhole_301 : decode cX0_askedWhole 301 = .ok (.goto 4, 3) := dk_167 0 4 (dk_at dksX0_askedWhole_12 17 rfl rfl)
theorem dX0_askedWhole_304 : decode cX0_askedWhole 304 = .ok (.iconst 0, 1) := dk_3 (dk_at dksX0_askedWhole_12 20 rfl rfl)
theorem dX0_askedWhole_305 : decode cX0_askedWhole 305 = .ok (.ireturn, 1) := dk_172 (dk_at dksX0_askedWhole_12 21 rfl rfl)
abbrev cX0_askedMade : ByteArray := method_6_code
def yX0_askedMade : MethodName := ⟨RX0, "askedMade", "([I)LBitReader;"⟩
def dkwX0_askedMade_2 : List UInt8 := [132, 2, 4, 167, 255, 216, 43, 176]
abbrev dktX0_askedMade_2 : List UInt8 := dkwX0_askedMade_2 ++ []
def dkwX0_askedMade_1 : List UInt8 := [4, 96, 184, 0, 45, 42, 28, 5, 96, 184, 0, 45, 42, 28, 6, 96, 184, 0, 45, 182, 0, 16, 87]
abbrev dktX0_askedMade_1 : List UInt8 := dkwX0_askedMade_1 ++ dktX0_askedMade_2
def dkwX0_askedMade_0 : List UInt8 := [187, 0, 7, 89, 183, 0, 9, 76, 3, 61, 28, 16, 20, 162, 0, 40, 43, 42, 28, 184, 0, 45, 42, 28]
abbrev dktX0_askedMade_0 : List UInt8 := dkwX0_askedMade_0 ++ dktX0_askedMade_1
theorem dksX0_askedMade_0 : cX0_askedMade.data.toList.drop 0 = dktX0_askedMade_0 := by decide +kernel
theorem dksX0_askedMade_1 : cX0_askedMade.data.toList.drop 24 = dktX0_askedMade_1 := dk_seg dksX0_askedMade_0 24 rfl rfl
theorem dksX0_askedMade_2 : cX0_askedMade.data.toList.drop 47 = dktX0_askedMade_2 := dk_seg dksX0_askedMade_1 23 rfl rfl
theorem dX0_askedMade_0 : decode cX0_askedMade 0 = .ok (.new 7, 3) := dk_187 0 7 (dk_at dksX0_askedMade_0 0 rfl rfl)
theorem dX0_askedMade_3 : decode cX0_askedMade 3 = .ok (.dup, 1) := dk_89 (dk_at dksX0_askedMade_0 3 rfl rfl)
theorem dX0_askedMade_4 : decode cX0_askedMade 4 = .ok (.invokespecial 9, 3) := dk_183 0 9 (dk_at dksX0_askedMade_0 4 rfl rfl)
theorem dX0_askedMade_7 : decode cX0_askedMade 7 = .ok (.astore_n 1, 1) := dk_76 (dk_at dksX0_askedMade_0 7 rfl rfl)
theorem dX0_askedMade_8 : decode cX0_askedMade 8 = .ok (.iconst 0, 1) := dk_3 (dk_at dksX0_askedMade_0 8 rfl rfl)
theorem dX0_askedMade_9 : decode cX0_askedMade 9 = .ok (.istore_n 2, 1) := dk_61 (dk_at dksX0_askedMade_0 9 rfl rfl)
theorem dX0_askedMade_10 : decode cX0_askedMade 10 = .ok (.iload_n 2, 1) := dk_28 (dk_at dksX0_askedMade_0 10 rfl rfl)
theorem dX0_askedMade_11 : decode cX0_askedMade 11 = .ok (.bipush 20, 2) := dk_16 20 (dk_at dksX0_askedMade_0 11 rfl rfl)
theorem dX0_askedMade_13 : decode cX0_askedMade 13 = .ok (.if_icmp .ge 40, 3) := dk_162 0 40 (dk_at dksX0_askedMade_0 13 rfl rfl)
theorem dX0_askedMade_16 : decode cX0_askedMade 16 = .ok (.aload_n 1, 1) := dk_43 (dk_at dksX0_askedMade_0 16 rfl rfl)
theorem dX0_askedMade_17 : decode cX0_askedMade 17 = .ok (.aload_n 0, 1) := dk_42 (dk_at dksX0_askedMade_0 17 rfl rfl)
theorem dX0_askedMade_18 : decode cX0_askedMade 18 = .ok (.iload_n 2, 1) := dk_28 (dk_at dksX0_askedMade_0 18 rfl rfl)
theorem dX0_askedMade_19 : decode cX0_askedMade 19 = .ok (.invokestatic 45, 3) := dk_184 0 45 (dk_at dksX0_askedMade_0 19 rfl rfl)
theorem dX0_askedMade_22 : decode cX0_askedMade 22 = .ok (.aload_n 0, 1) := dk_42 (dk_at dksX0_askedMade_0 22 rfl rfl)
theorem dX0_askedMade_23 : decode cX0_askedMade 23 = .ok (.iload_n 2, 1) := dk_28 (dk_at dksX0_askedMade_0 23 rfl rfl)
theorem dX0_askedMade_24 : decode cX0_askedMade 24 = .ok (.iconst 1, 1) := dk_4 (dk_at dksX0_askedMade_1 0 rfl rfl)
theorem dX0_askedMade_25 : decode cX0_askedMade 25 = .ok (.iadd, 1) := dk_96 (dk_at dksX0_askedMade_1 1 rfl rfl)
theorem dX0_askedMade_26 : decode cX0_askedMade 26 = .ok (.invokestatic 45, 3) := dk_184 0 45 (dk_at dksX0_askedMade_1 2 rfl rfl)
theorem dX0_askedMade_29 : decode cX0_askedMade 29 = .ok (.aload_n 0, 1) := dk_42 (dk_at dksX0_askedMade_1 5 rfl rfl)
theorem dX0_askedMade_30 : decode cX0_askedMade 30 = .ok (.iload_n 2, 1) := dk_28 (dk_at dksX0_askedMade_1 6 rfl rfl)
theorem dX0_askedMade_31 : decode cX0_askedMade 31 = .ok (.iconst 2, 1) := dk_5 (dk_at dksX0_askedMade_1 7 rfl rfl)
theorem dX0_askedMade_32 : decode cX0_askedMade 32 = .ok (.iadd, 1) := dk_96 (dk_at dksX0_askedMade_1 8 rfl rfl)
theorem dX0_askedMade_33 : decode cX0_askedMade 33 = .ok (.invokestatic 45, 3) := dk_184 0 45 (dk_at dksX0_askedMade_1 9 rfl rfl)
theorem dX0_askedMade_36 : decode cX0_askedMade 36 = .ok (.aload_n 0, 1) := dk_42 (dk_at dksX0_askedMade_1 12 rfl rfl)
theorem dX0_askedMade_37 : decode cX0_askedMade 37 = .ok (.iload_n 2, 1) := dk_28 (dk_at dksX0_askedMade_1 13 rfl rfl)
theorem dX0_askedMade_38 : decode cX0_askedMade 38 = .ok (.iconst 3, 1) := dk_6 (dk_at dksX0_askedMade_1 14 rfl rfl)
theorem dX0_askedMade_39 : decode cX0_askedMade 39 = .ok (.iadd, 1) := dk_96 (dk_at dksX0_askedMade_1 15 rfl rfl)
theorem dX0_askedMade_40 : decode cX0_askedMade 40 = .ok (.invokestatic 45, 3) := dk_184 0 45 (dk_at dksX0_askedMade_1 16 rfl rfl)
theorem dX0_askedMade_43 : decode cX0_askedMade 43 = .ok (.invokevirtual 16, 3) := dk_182 0 16 (dk_at dksX0_askedMade_1 19 rfl rfl)
theorem dX0_askedMade_46 : decode cX0_askedMade 46 = .ok (.pop, 1) := dk_87 (dk_at dksX0_askedMade_1 22 rfl rfl)
theorem dX0_askedMade_47 : decode cX0_askedMade 47 = .ok (.iinc 2 4, 3) := dk_132 2 4 (dk_at dksX0_askedMade_2 0 rfl rfl)
theorem dX0_askedMade_50 : decode cX0_askedMade 50 = .ok (.goto (-40), 3) := dk_167 255 216 (dk_at dksX0_askedMade_2 3 rfl rfl)
theorem dX0_askedMade_53 : decode cX0_askedMade 53 = .ok (.aload_n 1, 1) := dk_43 (dk_at dksX0_askedMade_2 6 rfl rfl)
theorem dX0_askedMade_54 : decode cX0_askedMade 54 = .ok (.areturn, 1) := dk_176 (dk_at dksX0_askedMade_2 7 rfl rfl)
abbrev cX0_askedCell : ByteArray := method_5_code
def yX0_askedCell : MethodName := ⟨RX0, "askedCell", "([II)I"⟩
def dkwX0_askedCell_0 : List UInt8 := [27, 42, 190, 162, 0, 9, 42, 27, 46, 167, 0, 4, 3, 172]
abbrev dktX0_askedCell_0 : List UInt8 := dkwX0_askedCell_0 ++ []
theorem dksX0_askedCell_0 : cX0_askedCell.data.toList.drop 0 = dktX0_askedCell_0 := by decide +kernel
theorem dX0_askedCell_0 : decode cX0_askedCell 0 = .ok (.iload_n 1, 1) := dk_27 (dk_at dksX0_askedCell_0 0 rfl rfl)
theorem dX0_askedCell_1 : decode cX0_askedCell 1 = .ok (.aload_n 0, 1) := dk_42 (dk_at dksX0_askedCell_0 1 rfl rfl)
theorem dX0_askedCell_2 : decode cX0_askedCell 2 = .ok (.arraylength, 1) := dk_190 (dk_at dksX0_askedCell_0 2 rfl rfl)
theorem dX0_askedCell_3 : decode cX0_askedCell 3 = .ok (.if_icmp .ge 9, 3) := dk_162 0 9 (dk_at dksX0_askedCell_0 3 rfl rfl)
theorem dX0_askedCell_6 : decode cX0_askedCell 6 = .ok (.aload_n 0, 1) := dk_42 (dk_at dksX0_askedCell_0 6 rfl rfl)
theorem dX0_askedCell_7 : decode cX0_askedCell 7 = .ok (.iload_n 1, 1) := dk_27 (dk_at dksX0_askedCell_0 7 rfl rfl)
theorem dX0_askedCell_8 : decode cX0_askedCell 8 = .ok (.iaload, 1) := dk_46 (dk_at dksX0_askedCell_0 8 rfl rfl)
theorem dX0_askedCell_9 : decode cX0_askedCell 9 = .ok (.goto 4, 3) := dk_167 0 4 (dk_at dksX0_askedCell_0 9 rfl rfl)
theorem dX0_askedCell_12 : decode cX0_askedCell 12 = .ok (.iconst 0, 1) := dk_3 (dk_at dksX0_askedCell_0 12 rfl rfl)
theorem dX0_askedCell_13 : decode cX0_askedCell 13 = .ok (.ireturn, 1) := dk_172 (dk_at dksX0_askedCell_0 13 rfl rfl)
abbrev cX0_askedBegun : ByteArray := method_8_code
def yX0_askedBegun : MethodName := ⟨RX0, "askedBegun", "([I)Z"⟩
def dkwX0_askedBegun_8 : List UInt8 := [182, 0, 31, 154, 0, 15, 43, 182, 0, 39, 4, 160, 0, 7, 4, 167, 0, 4, 3, 172]
abbrev dktX0_askedBegun_8 : List UInt8 := dkwX0_askedBegun_8 ++ []
def dkwX0_askedBegun_7 : List UInt8 := [154, 0, 41, 43, 16, 7, 182, 0, 27, 42, 4, 184, 0, 45, 16, 24, 124, 133, 148, 154, 0, 22, 43]
abbrev dktX0_askedBegun_7 : List UInt8 := dkwX0_askedBegun_7 ++ dktX0_askedBegun_8
def dkwX0_askedBegun_6 : List UInt8 := [182, 0, 20, 43, 182, 0, 31, 16, 8, 160, 0, 54, 43, 16, 8, 182, 0, 27, 20, 0, 35, 148]
abbrev dktX0_askedBegun_6 : List UInt8 := dkwX0_askedBegun_6 ++ dktX0_askedBegun_7
def dkwX0_askedBegun_5 : List UInt8 := [153, 0, 5, 3, 172, 43, 42, 4, 184, 0, 45, 3, 3, 3, 182, 0, 16, 87, 43, 4, 182, 0, 54, 43]
abbrev dktX0_askedBegun_5 : List UInt8 := dkwX0_askedBegun_5 ++ dktX0_askedBegun_6
def dkwX0_askedBegun_4 : List UInt8 := [3, 172, 43, 182, 0, 20, 43, 182, 0, 31, 154, 0, 17, 43, 182, 0, 39, 154, 0, 10, 43, 182, 0, 42]
abbrev dktX0_askedBegun_4 : List UInt8 := dkwX0_askedBegun_4 ++ dktX0_askedBegun_5
def dkwX0_askedBegun_3 : List UInt8 := [160, 0, 24, 43, 5, 182, 0, 27, 42, 3, 184, 0, 45, 16, 24, 124, 16, 7, 126, 133, 148, 153, 0, 5]
abbrev dktX0_askedBegun_3 : List UInt8 := dkwX0_askedBegun_3 ++ dktX0_askedBegun_4
def dkwX0_askedBegun_2 : List UInt8 := [172, 43, 182, 0, 20, 43, 7, 182, 0, 27, 88, 43, 3, 182, 0, 54, 43, 182, 0, 31, 17, 2, 123]
abbrev dktX0_askedBegun_2 : List UInt8 := dkwX0_askedBegun_2 ++ dktX0_askedBegun_3
def dkwX0_askedBegun_1 : List UInt8 := [43, 182, 0, 39, 154, 0, 19, 43, 182, 0, 42, 154, 0, 12, 43, 182, 0, 51, 16, 80, 159, 0, 5, 3]
abbrev dktX0_askedBegun_1 : List UInt8 := dkwX0_askedBegun_1 ++ dktX0_askedBegun_2
def dkwX0_askedBegun_0 : List UInt8 := [42, 184, 0, 48, 76, 43, 182, 0, 31, 154, 0, 38, 43, 3, 182, 0, 27, 20, 0, 35, 148, 154, 0, 26]
abbrev dktX0_askedBegun_0 : List UInt8 := dkwX0_askedBegun_0 ++ dktX0_askedBegun_1
theorem dksX0_askedBegun_0 : cX0_askedBegun.data.toList.drop 0 = dktX0_askedBegun_0 := by decide +kernel
theorem dksX0_askedBegun_1 : cX0_askedBegun.data.toList.drop 24 = dktX0_askedBegun_1 := dk_seg dksX0_askedBegun_0 24 rfl rfl
theorem dksX0_askedBegun_2 : cX0_askedBegun.data.toList.drop 48 = dktX0_askedBegun_2 := dk_seg dksX0_askedBegun_1 24 rfl rfl
theorem dksX0_askedBegun_3 : cX0_askedBegun.data.toList.drop 71 = dktX0_askedBegun_3 := dk_seg dksX0_askedBegun_2 23 rfl rfl
theorem dksX0_askedBegun_4 : cX0_askedBegun.data.toList.drop 95 = dktX0_askedBegun_4 := dk_seg dksX0_askedBegun_3 24 rfl rfl
theorem dksX0_askedBegun_5 : cX0_askedBegun.data.toList.drop 119 = dktX0_askedBegun_5 := dk_seg dksX0_askedBegun_4 24 rfl rfl
theorem dksX0_askedBegun_6 : cX0_askedBegun.data.toList.drop 143 = dktX0_askedBegun_6 := dk_seg dksX0_askedBegun_5 24 rfl rfl
theorem dksX0_askedBegun_7 : cX0_askedBegun.data.toList.drop 165 = dktX0_askedBegun_7 := dk_seg dksX0_askedBegun_6 22 rfl rfl
theorem dksX0_askedBegun_8 : cX0_askedBegun.data.toList.drop 188 = dktX0_askedBegun_8 := dk_seg dksX0_askedBegun_7 23 rfl rfl
theorem dX0_askedBegun_0 : decode cX0_askedBegun 0 = .ok (.aload_n 0, 1) := dk_42 (dk_at dksX0_askedBegun_0 0 rfl rfl)
theorem dX0_askedBegun_1 : decode cX0_askedBegun 1 = .ok (.invokestatic 48, 3) := dk_184 0 48 (dk_at dksX0_askedBegun_0 1 rfl rfl)
theorem dX0_askedBegun_4 : decode cX0_askedBegun 4 = .ok (.astore_n 1, 1) := dk_76 (dk_at dksX0_askedBegun_0 4 rfl rfl)
theorem dX0_askedBegun_5 : decode cX0_askedBegun 5 = .ok (.aload_n 1, 1) := dk_43 (dk_at dksX0_askedBegun_0 5 rfl rfl)
theorem dX0_askedBegun_6 : decode cX0_askedBegun 6 = .ok (.invokevirtual 31, 3) := dk_182 0 31 (dk_at dksX0_askedBegun_0 6 rfl rfl)
theorem dX0_askedBegun_9 : decode cX0_askedBegun 9 = .ok (.ifCond .ne 38, 3) := dk_154 0 38 (dk_at dksX0_askedBegun_0 9 rfl rfl)
theorem dX0_askedBegun_12 : decode cX0_askedBegun 12 = .ok (.aload_n 1, 1) := dk_43 (dk_at dksX0_askedBegun_0 12 rfl rfl)
theorem dX0_askedBegun_13 : decode cX0_askedBegun 13 = .ok (.iconst 0, 1) := dk_3 (dk_at dksX0_askedBegun_0 13 rfl rfl)
theorem dX0_askedBegun_14 : decode cX0_askedBegun 14 = .ok (.invokevirtual 27, 3) := dk_182 0 27 (dk_at dksX0_askedBegun_0 14 rfl rfl)
theorem dX0_askedBegun_17 : decode cX0_askedBegun 17 = .ok (.ldc2_w 35, 3) := dk_20 0 35 (dk_at dksX0_askedBegun_0 17 rfl rfl)
theorem dX0_askedBegun_20 : decode cX0_askedBegun 20 = .ok (.lcmp, 1) := dk_148 (dk_at dksX0_askedBegun_0 20 rfl rfl)
theorem dX0_askedBegun_21 : decode cX0_askedBegun 21 = .ok (.ifCond .ne 26, 3) := dk_154 0 26 (dk_at dksX0_askedBegun_0 21 rfl rfl)
theorem dX0_askedBegun_24 : decode cX0_askedBegun 24 = .ok (.aload_n 1, 1) := dk_43 (dk_at dksX0_askedBegun_1 0 rfl rfl)
theorem dX0_askedBegun_25 : decode cX0_askedBegun 25 = .ok (.invokevirtual 39, 3) := dk_182 0 39 (dk_at dksX0_askedBegun_1 1 rfl rfl)
theorem dX0_askedBegun_28 : decode cX0_askedBegun 28 = .ok (.ifCond .ne 19, 3) := dk_154 0 19 (dk_at dksX0_askedBegun_1 4 rfl rfl)
theorem dX0_askedBegun_31 : decode cX0_askedBegun 31 = .ok (.aload_n 1, 1) := dk_43 (dk_at dksX0_askedBegun_1 7 rfl rfl)
theorem dX0_askedBegun_32 : decode cX0_askedBegun 32 = .ok (.invokevirtual 42, 3) := dk_182 0 42 (dk_at dksX0_askedBegun_1 8 rfl rfl)
theorem dX0_askedBegun_35 : decode cX0_askedBegun 35 = .ok (.ifCond .ne 12, 3) := dk_154 0 12 (dk_at dksX0_askedBegun_1 11 rfl rfl)
theorem dX0_askedBegun_38 : decode cX0_askedBegun 38 = .ok (.aload_n 1, 1) := dk_43 (dk_at dksX0_askedBegun_1 14 rfl rfl)
theorem dX0_askedBegun_39 : decode cX0_askedBegun 39 = .ok (.invokevirtual 51, 3) := dk_182 0 51 (dk_at dksX0_askedBegun_1 15 rfl rfl)
theorem dX0_askedBegun_42 : decode cX0_askedBegun 42 = .ok (.bipush 80, 2) := dk_16 80 (dk_at dksX0_askedBegun_1 18 rfl rfl)
theorem dX0_askedBegun_44 : decode cX0_askedBegun 44 = .ok (.if_icmp .eq 5, 3) := dk_159 0 5 (dk_at dksX0_askedBegun_1 20 rfl rfl)
theorem dX0_askedBegun_47 : decode cX0_askedBegun 47 = .ok (.iconst 0, 1) := dk_3 (dk_at dksX0_askedBegun_1 23 rfl rfl)
theorem dX0_askedBegun_48 : decode cX0_askedBegun 48 = .ok (.ireturn, 1) := dk_172 (dk_at dksX0_askedBegun_2 0 rfl rfl)
theorem dX0_askedBegun_49 : decode cX0_askedBegun 49 = .ok (.aload_n 1, 1) := dk_43 (dk_at dksX0_askedBegun_2 1 rfl rfl)
theorem dX0_askedBegun_50 : decode cX0_askedBegun 50 = .ok (.invokevirtual 20, 3) := dk_182 0 20 (dk_at dksX0_askedBegun_2 2 rfl rfl)
theorem dX0_askedBegun_53 : decode cX0_askedBegun 53 = .ok (.aload_n 1, 1) := dk_43 (dk_at dksX0_askedBegun_2 5 rfl rfl)
theorem dX0_askedBegun_54 : decode cX0_askedBegun 54 = .ok (.iconst 4, 1) := dk_7 (dk_at dksX0_askedBegun_2 6 rfl rfl)
theorem dX0_askedBegun_55 : decode cX0_askedBegun 55 = .ok (.invokevirtual 27, 3) := dk_182 0 27 (dk_at dksX0_askedBegun_2 7 rfl rfl)
theorem dX0_askedBegun_58 : decode cX0_askedBegun 58 = .ok (.pop2, 1) := dk_88 (dk_at dksX0_askedBegun_2 10 rfl rfl)
theorem dX0_askedBegun_59 : decode cX0_askedBegun 59 = .ok (.aload_n 1, 1) := dk_43 (dk_at dksX0_askedBegun_2 11 rfl rfl)
theorem dX0_askedBegun_60 : decode cX0_askedBegun 60 = .ok (.iconst 0, 1) := dk_3 (dk_at dksX0_askedBegun_2 12 rfl rfl)
theorem dX0_askedBegun_61 : decode cX0_askedBegun 61 = .ok (.invokevirtual 54, 3) := dk_182 0 54 (dk_at dksX0_askedBegun_2 13 rfl rfl)
theorem dX0_askedBegun_64 : decode cX0_askedBegun 64 = .ok (.aload_n 1, 1) := dk_43 (dk_at dksX0_askedBegun_2 16 rfl rfl)
theorem dX0_askedBegun_65 : decode cX0_askedBegun 65 = .ok (.invokevirtual 31, 3) := dk_182 0 31 (dk_at dksX0_askedBegun_2 17 rfl rfl)
theorem dX0_askedBegun_68 : decode cX0_askedBegun 68 = .ok (.sipush 635, 3) := dk_17 2 123 (dk_at dksX0_askedBegun_2 20 rfl rfl)
theorem dX0_askedBegun_71 : decode cX0_askedBegun 71 = .ok (.if_icmp .ne 24, 3) := dk_160 0 24 (dk_at dksX0_askedBegun_3 0 rfl rfl)
theorem dX0_askedBegun_74 : decode cX0_askedBegun 74 = .ok (.aload_n 1, 1) := dk_43 (dk_at dksX0_askedBegun_3 3 rfl rfl)
theorem dX0_askedBegun_75 : decode cX0_askedBegun 75 = .ok (.iconst 2, 1) := dk_5 (dk_at dksX0_askedBegun_3 4 rfl rfl)
theorem dX0_askedBegun_76 : decode cX0_askedBegun 76 = .ok (.invokevirtual 27, 3) := dk_182 0 27 (dk_at dksX0_askedBegun_3 5 rfl rfl)
theorem dX0_askedBegun_79 : decode cX0_askedBegun 79 = .ok (.aload_n 0, 1) := dk_42 (dk_at dksX0_askedBegun_3 8 rfl rfl)
theorem dX0_askedBegun_80 : decode cX0_askedBegun 80 = .ok (.iconst 0, 1) := dk_3 (dk_at dksX0_askedBegun_3 9 rfl rfl)
theorem dX0_askedBegun_81 : decode cX0_askedBegun 81 = .ok (.invokestatic 45, 3) := dk_184 0 45 (dk_at dksX0_askedBegun_3 10 rfl rfl)
theorem dX0_askedBegun_84 : decode cX0_askedBegun 84 = .ok (.bipush 24, 2) := dk_16 24 (dk_at dksX0_askedBegun_3 13 rfl rfl)
theorem dX0_askedBegun_86 : decode cX0_askedBegun 86 = .ok (.iushr, 1) := dk_124 (dk_at dksX0_askedBegun_3 15 rfl rfl)
theorem dX0_askedBegun_87 : decode cX0_askedBegun 87 = .ok (.bipush 7, 2) := dk_16 7 (dk_at dksX0_askedBegun_3 16 rfl rfl)
theorem dX0_askedBegun_89 : decode cX0_askedBegun 89 = .ok (.iand, 1) := dk_126 (dk_at dksX0_askedBegun_3 18 rfl rfl)
theorem dX0_askedBegun_90 : decode cX0_askedBegun 90 = .ok (.i2l, 1) := dk_133 (dk_at dksX0_askedBegun_3 19 rfl rfl)
theorem dX0_askedBegun_91 : decode cX0_askedBegun 91 = .ok (.lcmp, 1) := dk_148 (dk_at dksX0_askedBegun_3 20 rfl rfl)
theorem dX0_askedBegun_92 : decode cX0_askedBegun 92 = .ok (.ifCond .eq 5, 3) := dk_153 0 5 (dk_at dksX0_askedBegun_3 21 rfl rfl)
theorem dX0_askedBegun_95 : decode cX0_askedBegun 95 = .ok (.iconst 0, 1) := dk_3 (dk_at dksX0_askedBegun_4 0 rfl rfl)
theorem dX0_askedBegun_96 : decode cX0_askedBegun 96 = .ok (.ireturn, 1) := dk_172 (dk_at dksX0_askedBegun_4 1 rfl rfl)
theorem dX0_askedBegun_97 : decode cX0_askedBegun 97 = .ok (.aload_n 1, 1) := dk_43 (dk_at dksX0_askedBegun_4 2 rfl rfl)
theorem dX0_askedBegun_98 : decode cX0_askedBegun 98 = .ok (.invokevirtual 20, 3) := dk_182 0 20 (dk_at dksX0_askedBegun_4 3 rfl rfl)
theorem dX0_askedBegun_101 : decode cX0_askedBegun 101 = .ok (.aload_n 1, 1) := dk_43 (dk_at dksX0_askedBegun_4 6 rfl rfl)
theorem dX0_askedBegun_102 : decode cX0_askedBegun 102 = .ok (.invokevirtual 31, 3) := dk_182 0 31 (dk_at dksX0_askedBegun_4 7 rfl rfl)
theorem dX0_askedBegun_105 : decode cX0_askedBegun 105 = .ok (.ifCond .ne 17, 3) := dk_154 0 17 (dk_at dksX0_askedBegun_4 10 rfl rfl)
theorem dX0_askedBegun_108 : decode cX0_askedBegun 108 = .ok (.aload_n 1, 1) := dk_43 (dk_at dksX0_askedBegun_4 13 rfl rfl)
theorem dX0_askedBegun_109 : decode cX0_askedBegun 109 = .ok (.invokevirtual 39, 3) := dk_182 0 39 (dk_at dksX0_askedBegun_4 14 rfl rfl)
theorem dX0_askedBegun_112 : decode cX0_askedBegun 112 = .ok (.ifCond .ne 10, 3) := dk_154 0 10 (dk_at dksX0_askedBegun_4 17 rfl rfl)
theorem dX0_askedBegun_115 : decode cX0_askedBegun 115 = .ok (.aload_n 1, 1) := dk_43 (dk_at dksX0_askedBegun_4 20 rfl rfl)
theorem dX0_askedBegun_116 : decode cX0_askedBegun 116 = .ok (.invokevirtual 42, 3) := dk_182 0 42 (dk_at dksX0_askedBegun_4 21 rfl rfl)
theorem dX0_askedBegun_119 : decode cX0_askedBegun 119 = .ok (.ifCond .eq 5, 3) := dk_153 0 5 (dk_at dksX0_askedBegun_5 0 rfl rfl)
theorem dX0_askedBegun_122 : decode cX0_askedBegun 122 = .ok (.iconst 0, 1) := dk_3 (dk_at dksX0_askedBegun_5 3 rfl rfl)
theorem dX0_askedBegun_123 : decode cX0_askedBegun 123 = .ok (.ireturn, 1) := dk_172 (dk_at dksX0_askedBegun_5 4 rfl rfl)
theorem dX0_askedBegun_124 : decode cX0_askedBegun 124 = .ok (.aload_n 1, 1) := dk_43 (dk_at dksX0_askedBegun_5 5 rfl rfl)
theorem dX0_askedBegun_125 : decode cX0_askedBegun 125 = .ok (.aload_n 0, 1) := dk_42 (dk_at dksX0_askedBegun_5 6 rfl rfl)
theorem dX0_askedBegun_126 : decode cX0_askedBegun 126 = .ok (.iconst 1, 1) := dk_4 (dk_at dksX0_askedBegun_5 7 rfl rfl)
theorem dX0_askedBegun_127 : decode cX0_askedBegun 127 = .ok (.invokestatic 45, 3) := dk_184 0 45 (dk_at dksX0_askedBegun_5 8 rfl rfl)
theorem dX0_askedBegun_130 : decode cX0_askedBegun 130 = .ok (.iconst 0, 1) := dk_3 (dk_at dksX0_askedBegun_5 11 rfl rfl)
theorem dX0_askedBegun_131 : decode cX0_askedBegun 131 = .ok (.iconst 0, 1) := dk_3 (dk_at dksX0_askedBegun_5 12 rfl rfl)
theorem dX0_askedBegun_132 : decode cX0_askedBegun 132 = .ok (.iconst 0, 1) := dk_3 (dk_at dksX0_askedBegun_5 13 rfl rfl)
theorem dX0_askedBegun_133 : decode cX0_askedBegun 133 = .ok (.invokevirtual 16, 3) := dk_182 0 16 (dk_at dksX0_askedBegun_5 14 rfl rfl)
theorem dX0_askedBegun_136 : decode cX0_askedBegun 136 = .ok (.pop, 1) := dk_87 (dk_at dksX0_askedBegun_5 17 rfl rfl)
theorem dX0_askedBegun_137 : decode cX0_askedBegun 137 = .ok (.aload_n 1, 1) := dk_43 (dk_at dksX0_askedBegun_5 18 rfl rfl)
theorem dX0_askedBegun_138 : decode cX0_askedBegun 138 = .ok (.iconst 1, 1) := dk_4 (dk_at dksX0_askedBegun_5 19 rfl rfl)
theorem dX0_askedBegun_139 : decode cX0_askedBegun 139 = .ok (.invokevirtual 54, 3) := dk_182 0 54 (dk_at dksX0_askedBegun_5 20 rfl rfl)
theorem dX0_askedBegun_142 : decode cX0_askedBegun 142 = .ok (.aload_n 1, 1) := dk_43 (dk_at dksX0_askedBegun_5 23 rfl rfl)
theorem dX0_askedBegun_143 : decode cX0_askedBegun 143 = .ok (.invokevirtual 20, 3) := dk_182 0 20 (dk_at dksX0_askedBegun_6 0 rfl rfl)
theorem dX0_askedBegun_146 : decode cX0_askedBegun 146 = .ok (.aload_n 1, 1) := dk_43 (dk_at dksX0_askedBegun_6 3 rfl rfl)
theorem dX0_askedBegun_147 : decode cX0_askedBegun 147 = .ok (.invokevirtual 31, 3) := dk_182 0 31 (dk_at dksX0_askedBegun_6 4 rfl rfl)
theorem dX0_askedBegun_150 : decode cX0_askedBegun 150 = .ok (.bipush 8, 2) := dk_16 8 (dk_at dksX0_askedBegun_6 7 rfl rfl)
theorem dX0_askedBegun_152 : decode cX0_askedBegun 152 = .ok (.if_icmp .ne 54, 3) := dk_160 0 54 (dk_at dksX0_askedBegun_6 9 rfl rfl)
theorem dX0_askedBegun_155 : decode cX0_askedBegun 155 = .ok (.aload_n 1, 1) := dk_43 (dk_at dksX0_askedBegun_6 12 rfl rfl)
theorem dX0_askedBegun_156 : decode cX0_askedBegun 156 = .ok (.bipush 8, 2) := dk_16 8 (dk_at dksX0_askedBegun_6 13 rfl rfl)
theorem dX0_askedBegun_158 : decode cX0_askedBegun 158 = .ok (.invokevirtual 27, 3) := dk_182 0 27 (dk_at dksX0_askedBegun_6 15 rfl rfl)
theorem dX0_askedBegun_161 : decode cX0_askedBegun 161 = .ok (.ldc2_w 35, 3) := dk_20 0 35 (dk_at dksX0_askedBegun_6 18 rfl rfl)
theorem dX0_askedBegun_164 : decode cX0_askedBegun 164 = .ok (.lcmp, 1) := dk_148 (dk_at dksX0_askedBegun_6 21 rfl rfl)
theorem dX0_askedBegun_165 : decode cX0_askedBegun 165 = .ok (.ifCond .ne 41, 3) := dk_154 0 41 (dk_at dksX0_askedBegun_7 0 rfl rfl)
theorem dX0_askedBegun_168 : decode cX0_askedBegun 168 = .ok (.aload_n 1, 1) := dk_43 (dk_at dksX0_askedBegun_7 3 rfl rfl)
theorem dX0_askedBegun_169 : decode cX0_askedBegun 169 = .ok (.bipush 7, 2) := dk_16 7 (dk_at dksX0_askedBegun_7 4 rfl rfl)
theorem dX0_askedBegun_171 : decode cX0_askedBegun 171 = .ok (.invokevirtual 27, 3) := dk_182 0 27 (dk_at dksX0_askedBegun_7 6 rfl rfl)
theorem dX0_askedBegun_174 : decode cX0_askedBegun 174 = .ok (.aload_n 0, 1) := dk_42 (dk_at dksX0_askedBegun_7 9 rfl rfl)
theorem dX0_askedBegun_175 : decode cX0_askedBegun 175 = .ok (.iconst 1, 1) := dk_4 (dk_at dksX0_askedBegun_7 10 rfl rfl)
theorem dX0_askedBegun_176 : decode cX0_askedBegun 176 = .ok (.invokestatic 45, 3) := dk_184 0 45 (dk_at dksX0_askedBegun_7 11 rfl rfl)
theorem dX0_askedBegun_179 : decode cX0_askedBegun 179 = .ok (.bipush 24, 2) := dk_16 24 (dk_at dksX0_askedBegun_7 14 rfl rfl)
theorem dX0_askedBegun_181 : decode cX0_askedBegun 181 = .ok (.iushr, 1) := dk_124 (dk_at dksX0_askedBegun_7 16 rfl rfl)
theorem dX0_askedBegun_182 : decode cX0_askedBegun 182 = .ok (.i2l, 1) := dk_133 (dk_at dksX0_askedBegun_7 17 rfl rfl)
theorem dX0_askedBegun_183 : decode cX0_askedBegun 183 = .ok (.lcmp, 1) := dk_148 (dk_at dksX0_askedBegun_7 18 rfl rfl)
theorem dX0_askedBegun_184 : decode cX0_askedBegun 184 = .ok (.ifCond .ne 22, 3) := dk_154 0 22 (dk_at dksX0_askedBegun_7 19 rfl rfl)
theorem dX0_askedBegun_187 : decode cX0_askedBegun 187 = .ok (.aload_n 1, 1) := dk_43 (dk_at dksX0_askedBegun_7 22 rfl rfl)
theorem dX0_askedBegun_188 : decode cX0_askedBegun 188 = .ok (.invokevirtual 31, 3) := dk_182 0 31 (dk_at dksX0_askedBegun_8 0 rfl rfl)
theorem dX0_askedBegun_191 : decode cX0_askedBegun 191 = .ok (.ifCond .ne 15, 3) := dk_154 0 15 (dk_at dksX0_askedBegun_8 3 rfl rfl)
theorem dX0_askedBegun_194 : decode cX0_askedBegun 194 = .ok (.aload_n 1, 1) := dk_43 (dk_at dksX0_askedBegun_8 6 rfl rfl)
theorem dX0_askedBegun_195 : decode cX0_askedBegun 195 = .ok (.invokevirtual 39, 3) := dk_182 0 39 (dk_at dksX0_askedBegun_8 7 rfl rfl)
theorem dX0_askedBegun_198 : decode cX0_askedBegun 198 = .ok (.iconst 1, 1) := dk_4 (dk_at dksX0_askedBegun_8 10 rfl rfl)
theorem dX0_askedBegun_199 : decode cX0_askedBegun 199 = .ok (.if_icmp .ne 7, 3) := dk_160 0 7 (dk_at dksX0_askedBegun_8 11 rfl rfl)
theorem dX0_askedBegun_202 : decode cX0_askedBegun 202 = .ok (.iconst 1, 1) := dk_4 (dk_at dksX0_askedBegun_8 14 rfl rfl)
theorem dX0_askedBegun_203 : decode cX0_askedBegun 203 = .ok (.goto 4, 3) := dk_167 0 4 (dk_at dksX0_askedBegun_8 15 rfl rfl)
theorem dX0_askedBegun_206 : decode cX0_askedBegun 206 = .ok (.iconst 0, 1) := dk_3 (dk_at dksX0_askedBegun_8 18 rfl rfl)
theorem dX0_askedBegun_207 : decode cX0_askedBegun 207 = .ok (.ireturn, 1) := dk_172 (dk_at dksX0_askedBegun_8 19 rfl rfl)
abbrev cX0_askedMost : ByteArray := method_9_code
def yX0_askedMost : MethodName := ⟨RX0, "askedMost", "()Z"⟩
def dkwX0_askedMost_6 : List UInt8 := [4, 167, 0, 4, 3, 172]
abbrev dktX0_askedMost_6 : List UInt8 := dkwX0_askedMost_6 ++ []
def dkwX0_askedMost_5 : List UInt8 := [172, 42, 3, 182, 0, 54, 42, 182, 0, 51, 154, 0, 18, 42, 4, 4, 4, 4, 182, 0, 16, 153, 0, 7]
abbrev dktX0_askedMost_5 : List UInt8 := dkwX0_askedMost_5 ++ dktX0_askedMost_6
def dkwX0_askedMost_4 : List UInt8 := [182, 0, 16, 153, 0, 5, 3, 172, 42, 2, 182, 0, 54, 42, 182, 0, 51, 17, 2, 83, 159, 0, 5, 3]
abbrev dktX0_askedMost_4 : List UInt8 := dkwX0_askedMost_4 ++ dktX0_askedMost_5
def dkwX0_askedMost_3 : List UInt8 := [182, 0, 51, 17, 16, 0, 159, 0, 5, 3, 172, 42, 17, 15, 241, 182, 0, 54, 42, 4, 4, 4, 4]
abbrev dktX0_askedMost_3 : List UInt8 := dkwX0_askedMost_3 ++ dktX0_askedMost_4
def dkwX0_askedMost_2 : List UInt8 := [154, 0, 13, 42, 182, 0, 51, 17, 16, 0, 159, 0, 5, 3, 172, 42, 17, 16, 0, 182, 0, 54, 42]
abbrev dktX0_askedMost_2 : List UInt8 := dkwX0_askedMost_2 ++ dktX0_askedMost_3
def dkwX0_askedMost_1 : List UInt8 := [182, 0, 16, 154, 0, 5, 3, 172, 132, 1, 1, 167, 255, 233, 42, 4, 4, 4, 4, 182, 0, 16]
abbrev dktX0_askedMost_1 : List UInt8 := dkwX0_askedMost_1 ++ dktX0_askedMost_2
def dkwX0_askedMost_0 : List UInt8 := [187, 0, 7, 89, 183, 0, 9, 75, 3, 60, 27, 17, 1, 0, 162, 0, 22, 42, 27, 3, 3, 4]
abbrev dktX0_askedMost_0 : List UInt8 := dkwX0_askedMost_0 ++ dktX0_askedMost_1
theorem dksX0_askedMost_0 : cX0_askedMost.data.toList.drop 0 = dktX0_askedMost_0 := by decide +kernel
theorem dksX0_askedMost_1 : cX0_askedMost.data.toList.drop 22 = dktX0_askedMost_1 := dk_seg dksX0_askedMost_0 22 rfl rfl
theorem dksX0_askedMost_2 : cX0_askedMost.data.toList.drop 44 = dktX0_askedMost_2 := dk_seg dksX0_askedMost_1 22 rfl rfl
theorem dksX0_askedMost_3 : cX0_askedMost.data.toList.drop 67 = dktX0_askedMost_3 := dk_seg dksX0_askedMost_2 23 rfl rfl
theorem dksX0_askedMost_4 : cX0_askedMost.data.toList.drop 90 = dktX0_askedMost_4 := dk_seg dksX0_askedMost_3 23 rfl rfl
theorem dksX0_askedMost_5 : cX0_askedMost.data.toList.drop 114 = dktX0_askedMost_5 := dk_seg dksX0_askedMost_4 24 rfl rfl
theorem dksX0_askedMost_6 : cX0_askedMost.data.toList.drop 138 = dktX0_askedMost_6 := dk_seg dksX0_askedMost_5 24 rfl rfl
theorem dX0_askedMost_0 : decode cX0_askedMost 0 = .ok (.new 7, 3) := dk_187 0 7 (dk_at dksX0_askedMost_0 0 rfl rfl)
theorem dX0_askedMost_3 : decode cX0_askedMost 3 = .ok (.dup, 1) := dk_89 (dk_at dksX0_askedMost_0 3 rfl rfl)
theorem dX0_askedMost_4 : decode cX0_askedMost 4 = .ok (.invokespecial 9, 3) := dk_183 0 9 (dk_at dksX0_askedMost_0 4 rfl rfl)
theorem dX0_askedMost_7 : decode cX0_askedMost 7 = .ok (.astore_n 0, 1) := dk_75 (dk_at dksX0_askedMost_0 7 rfl rfl)
theorem dX0_askedMost_8 : decode cX0_askedMost 8 = .ok (.iconst 0, 1) := dk_3 (dk_at dksX0_askedMost_0 8 rfl rfl)
theorem dX0_askedMost_9 : decode cX0_askedMost 9 = .ok (.istore_n 1, 1) := dk_60 (dk_at dksX0_askedMost_0 9 rfl rfl)
theorem dX0_askedMost_10 : decode cX0_askedMost 10 = .ok (.iload_n 1, 1) := dk_27 (dk_at dksX0_askedMost_0 10 rfl rfl)
theorem dX0_askedMost_11 : decode cX0_askedMost 11 = .ok (.sipush 256, 3) := dk_17 1 0 (dk_at dksX0_askedMost_0 11 rfl rfl)
theorem dX0_askedMost_14 : decode cX0_askedMost 14 = .ok (.if_icmp .ge 22, 3) := dk_162 0 22 (dk_at dksX0_askedMost_0 14 rfl rfl)
theorem dX0_askedMost_17 : decode cX0_askedMost 17 = .ok (.aload_n 0, 1) := dk_42 (dk_at dksX0_askedMost_0 17 rfl rfl)
theorem dX0_askedMost_18 : decode cX0_askedMost 18 = .ok (.iload_n 1, 1) := dk_27 (dk_at dksX0_askedMost_0 18 rfl rfl)
theorem dX0_askedMost_19 : decode cX0_askedMost 19 = .ok (.iconst 0, 1) := dk_3 (dk_at dksX0_askedMost_0 19 rfl rfl)
theorem dX0_askedMost_20 : decode cX0_askedMost 20 = .ok (.iconst 0, 1) := dk_3 (dk_at dksX0_askedMost_0 20 rfl rfl)
theorem dX0_askedMost_21 : decode cX0_askedMost 21 = .ok (.iconst 1, 1) := dk_4 (dk_at dksX0_askedMost_0 21 rfl rfl)
theorem dX0_askedMost_22 : decode cX0_askedMost 22 = .ok (.invokevirtual 16, 3) := dk_182 0 16 (dk_at dksX0_askedMost_1 0 rfl rfl)
theorem dX0_askedMost_25 : decode cX0_askedMost 25 = .ok (.ifCond .ne 5, 3) := dk_154 0 5 (dk_at dksX0_askedMost_1 3 rfl rfl)
theorem dX0_askedMost_28 : decode cX0_askedMost 28 = .ok (.iconst 0, 1) := dk_3 (dk_at dksX0_askedMost_1 6 rfl rfl)
theorem dX0_askedMost_29 : decode cX0_askedMost 29 = .ok (.ireturn, 1) := dk_172 (dk_at dksX0_askedMost_1 7 rfl rfl)
theorem dX0_askedMost_30 : decode cX0_askedMost 30 = .ok (.iinc 1 1, 3) := dk_132 1 1 (dk_at dksX0_askedMost_1 8 rfl rfl)
theorem dX0_askedMost_33 : decode cX0_askedMost 33 = .ok (.goto (-23), 3) := dk_167 255 233 (dk_at dksX0_askedMost_1 11 rfl rfl)
theorem dX0_askedMost_36 : decode cX0_askedMost 36 = .ok (.aload_n 0, 1) := dk_42 (dk_at dksX0_askedMost_1 14 rfl rfl)
theorem dX0_askedMost_37 : decode cX0_askedMost 37 = .ok (.iconst 1, 1) := dk_4 (dk_at dksX0_askedMost_1 15 rfl rfl)
theorem dX0_askedMost_38 : decode cX0_askedMost 38 = .ok (.iconst 1, 1) := dk_4 (dk_at dksX0_askedMost_1 16 rfl rfl)
theorem dX0_askedMost_39 : decode cX0_askedMost 39 = .ok (.iconst 1, 1) := dk_4 (dk_at dksX0_askedMost_1 17 rfl rfl)
theorem dX0_askedMost_40 : decode cX0_askedMost 40 = .ok (.iconst 1, 1) := dk_4 (dk_at dksX0_askedMost_1 18 rfl rfl)
theorem dX0_askedMost_41 : decode cX0_askedMost 41 = .ok (.invokevirtual 16, 3) := dk_182 0 16 (dk_at dksX0_askedMost_1 19 rfl rfl)
theorem dX0_askedMost_44 : decode cX0_askedMost 44 = .ok (.ifCond .ne 13, 3) := dk_154 0 13 (dk_at dksX0_askedMost_2 0 rfl rfl)
theorem dX0_askedMost_47 : decode cX0_askedMost 47 = .ok (.aload_n 0, 1) := dk_42 (dk_at dksX0_askedMost_2 3 rfl rfl)
theorem dX0_askedMost_48 : decode cX0_askedMost 48 = .ok (.invokevirtual 51, 3) := dk_182 0 51 (dk_at dksX0_askedMost_2 4 rfl rfl)
theorem dX0_askedMost_51 : decode cX0_askedMost 51 = .ok (.sipush 4096, 3) := dk_17 16 0 (dk_at dksX0_askedMost_2 7 rfl rfl)
theorem dX0_askedMost_54 : decode cX0_askedMost 54 = .ok (.if_icmp .eq 5, 3) := dk_159 0 5 (dk_at dksX0_askedMost_2 10 rfl rfl)
theorem dX0_askedMost_57 : decode cX0_askedMost 57 = .ok (.iconst 0, 1) := dk_3 (dk_at dksX0_askedMost_2 13 rfl rfl)
theorem dX0_askedMost_58 : decode cX0_askedMost 58 = .ok (.ireturn, 1) := dk_172 (dk_at dksX0_askedMost_2 14 rfl rfl)
theorem dX0_askedMost_59 : decode cX0_askedMost 59 = .ok (.aload_n 0, 1) := dk_42 (dk_at dksX0_askedMost_2 15 rfl rfl)
theorem dX0_askedMost_60 : decode cX0_askedMost 60 = .ok (.sipush 4096, 3) := dk_17 16 0 (dk_at dksX0_askedMost_2 16 rfl rfl)
theorem dX0_askedMost_63 : decode cX0_askedMost 63 = .ok (.invokevirtual 54, 3) := dk_182 0 54 (dk_at dksX0_askedMost_2 19 rfl rfl)
theorem dX0_askedMost_66 : decode cX0_askedMost 66 = .ok (.aload_n 0, 1) := dk_42 (dk_at dksX0_askedMost_2 22 rfl rfl)
theorem dX0_askedMost_67 : decode cX0_askedMost 67 = .ok (.invokevirtual 51, 3) := dk_182 0 51 (dk_at dksX0_askedMost_3 0 rfl rfl)
theorem dX0_askedMost_70 : decode cX0_askedMost 70 = .ok (.sipush 4096, 3) := dk_17 16 0 (dk_at dksX0_askedMost_3 3 rfl rfl)
theorem dX0_askedMost_73 : decode cX0_askedMost 73 = .ok (.if_icmp .eq 5, 3) := dk_159 0 5 (dk_at dksX0_askedMost_3 6 rfl rfl)
theorem dX0_askedMost_76 : decode cX0_askedMost 76 = .ok (.iconst 0, 1) := dk_3 (dk_at dksX0_askedMost_3 9 rfl rfl)
theorem dX0_askedMost_77 : decode cX0_askedMost 77 = .ok (.ireturn, 1) := dk_172 (dk_at dksX0_askedMost_3 10 rfl rfl)
theorem dX0_askedMost_78 : decode cX0_askedMost 78 = .ok (.aload_n 0, 1) := dk_42 (dk_at dksX0_askedMost_3 11 rfl rfl)
theorem dX0_askedMost_79 : decode cX0_askedMost 79 = .ok (.sipush 4081, 3) := dk_17 15 241 (dk_at dksX0_askedMost_3 12 rfl rfl)
theorem dX0_askedMost_82 : decode cX0_askedMost 82 = .ok (.invokevirtual 54, 3) := dk_182 0 54 (dk_at dksX0_askedMost_3 15 rfl rfl)
theorem dX0_askedMost_85 : decode cX0_askedMost 85 = .ok (.aload_n 0, 1) := dk_42 (dk_at dksX0_askedMost_3 18 rfl rfl)
theorem dX0_askedMost_86 : decode cX0_askedMost 86 = .ok (.iconst 1, 1) := dk_4 (dk_at dksX0_askedMost_3 19 rfl rfl)
theorem dX0_askedMost_87 : decode cX0_askedMost 87 = .ok (.iconst 1, 1) := dk_4 (dk_at dksX0_askedMost_3 20 rfl rfl)
theorem dX0_askedMost_88 : decode cX0_askedMost 88 = .ok (.iconst 1, 1) := dk_4 (dk_at dksX0_askedMost_3 21 rfl rfl)
theorem dX0_askedMost_89 : decode cX0_askedMost 89 = .ok (.iconst 1, 1) := dk_4 (dk_at dksX0_askedMost_3 22 rfl rfl)
theorem dX0_askedMost_90 : decode cX0_askedMost 90 = .ok (.invokevirtual 16, 3) := dk_182 0 16 (dk_at dksX0_askedMost_4 0 rfl rfl)
theorem dX0_askedMost_93 : decode cX0_askedMost 93 = .ok (.ifCond .eq 5, 3) := dk_153 0 5 (dk_at dksX0_askedMost_4 3 rfl rfl)
theorem dX0_askedMost_96 : decode cX0_askedMost 96 = .ok (.iconst 0, 1) := dk_3 (dk_at dksX0_askedMost_4 6 rfl rfl)
theorem dX0_askedMost_97 : decode cX0_askedMost 97 = .ok (.ireturn, 1) := dk_172 (dk_at dksX0_askedMost_4 7 rfl rfl)
theorem dX0_askedMost_98 : decode cX0_askedMost 98 = .ok (.aload_n 0, 1) := dk_42 (dk_at dksX0_askedMost_4 8 rfl rfl)
theorem dX0_askedMost_99 : decode cX0_askedMost 99 = .ok (.iconst (-1), 1) := dk_2 (dk_at dksX0_askedMost_4 9 rfl rfl)
theorem dX0_askedMost_100 : decode cX0_askedMost 100 = .ok (.invokevirtual 54, 3) := dk_182 0 54 (dk_at dksX0_askedMost_4 10 rfl rfl)
theorem dX0_askedMost_103 : decode cX0_askedMost 103 = .ok (.aload_n 0, 1) := dk_42 (dk_at dksX0_askedMost_4 13 rfl rfl)
theorem dX0_askedMost_104 : decode cX0_askedMost 104 = .ok (.invokevirtual 51, 3) := dk_182 0 51 (dk_at dksX0_askedMost_4 14 rfl rfl)
theorem dX0_askedMost_107 : decode cX0_askedMost 107 = .ok (.sipush 595, 3) := dk_17 2 83 (dk_at dksX0_askedMost_4 17 rfl rfl)
theorem dX0_askedMost_110 : decode cX0_askedMost 110 = .ok (.if_icmp .eq 5, 3) := dk_159 0 5 (dk_at dksX0_askedMost_4 20 rfl rfl)
theorem dX0_askedMost_113 : decode cX0_askedMost 113 = .ok (.iconst 0, 1) := dk_3 (dk_at dksX0_askedMost_4 23 rfl rfl)
theorem dX0_askedMost_114 : decode cX0_askedMost 114 = .ok (.ireturn, 1) := dk_172 (dk_at dksX0_askedMost_5 0 rfl rfl)
theorem dX0_askedMost_115 : decode cX0_askedMost 115 = .ok (.aload_n 0, 1) := dk_42 (dk_at dksX0_askedMost_5 1 rfl rfl)
theorem dX0_askedMost_116 : decode cX0_askedMost 116 = .ok (.iconst 0, 1) := dk_3 (dk_at dksX0_askedMost_5 2 rfl rfl)
theorem dX0_askedMost_117 : decode cX0_askedMost 117 = .ok (.invokevirtual 54, 3) := dk_182 0 54 (dk_at dksX0_askedMost_5 3 rfl rfl)
theorem dX0_askedMost_120 : decode cX0_askedMost 120 = .ok (.aload_n 0, 1) := dk_42 (dk_at dksX0_askedMost_5 6 rfl rfl)
theorem dX0_askedMost_121 : decode cX0_askedMost 121 = .ok (.invokevirtual 51, 3) := dk_182 0 51 (dk_at dksX0_askedMost_5 7 rfl rfl)
theorem dX0_askedMost_124 : decode cX0_askedMost 124 = .ok (.ifCond .ne 18, 3) := dk_154 0 18 (dk_at dksX0_askedMost_5 10 rfl rfl)
theorem dX0_askedMost_127 : decode cX0_askedMost 127 = .ok (.aload_n 0, 1) := dk_42 (dk_at dksX0_askedMost_5 13 rfl rfl)
theorem dX0_askedMost_128 : decode cX0_askedMost 128 = .ok (.iconst 1, 1) := dk_4 (dk_at dksX0_askedMost_5 14 rfl rfl)
theorem dX0_askedMost_129 : decode cX0_askedMost 129 = .ok (.iconst 1, 1) := dk_4 (dk_at dksX0_askedMost_5 15 rfl rfl)
theorem dX0_askedMost_130 : decode cX0_askedMost 130 = .ok (.iconst 1, 1) := dk_4 (dk_at dksX0_askedMost_5 16 rfl rfl)
theorem dX0_askedMost_131 : decode cX0_askedMost 131 = .ok (.iconst 1, 1) := dk_4 (dk_at dksX0_askedMost_5 17 rfl rfl)
theorem dX0_askedMost_132 : decode cX0_askedMost 132 = .ok (.invokevirtual 16, 3) := dk_182 0 16 (dk_at dksX0_askedMost_5 18 rfl rfl)
theorem dX0_askedMost_135 : decode cX0_askedMost 135 = .ok (.ifCond .eq 7, 3) := dk_153 0 7 (dk_at dksX0_askedMost_5 21 rfl rfl)
theorem dX0_askedMost_138 : decode cX0_askedMost 138 = .ok (.iconst 1, 1) := dk_4 (dk_at dksX0_askedMost_6 0 rfl rfl)
theorem dX0_askedMost_139 : decode cX0_askedMost 139 = .ok (.goto 4, 3) := dk_167 0 4 (dk_at dksX0_askedMost_6 1 rfl rfl)
theorem dX0_askedMost_142 : decode cX0_askedMost 142 = .ok (.iconst 0, 1) := dk_3 (dk_at dksX0_askedMost_6 4 rfl rfl)
theorem dX0_askedMost_143 : decode cX0_askedMost 143 = .ok (.ireturn, 1) := dk_172 (dk_at dksX0_askedMost_6 5 rfl rfl)
theorem q3 : (Jvm.Cond.initialized "BitReaderLaw") ∈ lw_all := lw_g (lw_at lw_m0 0 rfl) rfl
theorem q11 : (Jvm.Cond.methodLink "BitReaderLaw" (58 : Nat) ({ cls := "BitReaderLaw", name := "elder", desc := "([I)Z" } : Jvm.MethodName)) ∈ lw_all := lw_g (lw_at lw_m0 8 rfl) rfl
theorem q12 : (Jvm.Cond.static ({ cls := "BitReaderLaw", name := "elder", desc := "([I)Z" } : Jvm.MethodName)) ∈ lw_all := lw_g (lw_at lw_m0 9 rfl) rfl
theorem q13 : (Jvm.Cond.code ({ cls := "BitReaderLaw", name := "elder", desc := "([I)Z" } : Jvm.MethodName) method_4_code (11 : Nat) (Option.some Jvm.ClassFile.FieldType.boolean)) ∈ lw_all := lw_g (lw_at lw_m0 10 rfl) rfl
theorem q14 : (Jvm.Cond.methodLink "BitReaderLaw" (23 : Nat) ({ cls := "BitReaderLaw", name := "made", desc := "([I)LBitReader;" } : Jvm.MethodName)) ∈ lw_all := lw_g (lw_at lw_m0 11 rfl) rfl
theorem q15 : (Jvm.Cond.static ({ cls := "BitReaderLaw", name := "made", desc := "([I)LBitReader;" } : Jvm.MethodName)) ∈ lw_all := lw_g (lw_at lw_m0 12 rfl) rfl
theorem q16 : (Jvm.Cond.code ({ cls := "BitReaderLaw", name := "made", desc := "([I)LBitReader;" } : Jvm.MethodName) method_3_code (3 : Nat) (Option.some (Jvm.ClassFile.FieldType.object "BitReader"))) ∈ lw_all := lw_g (lw_at lw_m0 13 rfl) rfl
theorem q17 : (Jvm.Cond.classLink "BitReaderLaw" (7 : Nat) "BitReader") ∈ lw_all := lw_g (lw_at lw_m0 14 rfl) rfl
theorem q19 : (Jvm.Cond.methodLink "BitReaderLaw" (9 : Nat) ({ cls := "BitReader", name := "<init>", desc := "()V" } : Jvm.MethodName)) ∈ lw_all := lw_g (lw_at lw_m0 16 rfl) rfl
theorem q52 : (Jvm.Cond.methodLink "BitReaderLaw" (10 : Nat) ({ cls := "BitReaderLaw", name := "cell", desc := "([II)I" } : Jvm.MethodName)) ∈ lw_all := lw_g (lw_at lw_m0 49 rfl) rfl
theorem q53 : (Jvm.Cond.static ({ cls := "BitReaderLaw", name := "cell", desc := "([II)I" } : Jvm.MethodName)) ∈ lw_all := lw_g (lw_at lw_m0 50 rfl) rfl
theorem q54 : (Jvm.Cond.code ({ cls := "BitReaderLaw", name := "cell", desc := "([II)I" } : Jvm.MethodName) method_2_code (2 : Nat) (Option.some Jvm.ClassFile.FieldType.int)) ∈ lw_all := lw_g (lw_at lw_m0 51 rfl) rfl
theorem q55 : (Jvm.Cond.methodLink "BitReaderLaw" (16 : Nat) ({ cls := "BitReader", name := "put", desc := "(IIII)Z" } : Jvm.MethodName)) ∈ lw_all := lw_g (lw_at lw_m0 52 rfl) rfl
theorem q63 : (Jvm.Cond.methodLink "BitReaderLaw" (20 : Nat) ({ cls := "BitReader", name := "begin", desc := "()V" } : Jvm.MethodName)) ∈ lw_all := lw_g (lw_at lw_m0 60 rfl) rfl
theorem q67 : (Jvm.Cond.methodLink "BitReaderLaw" (27 : Nat) ({ cls := "BitReader", name := "read", desc := "(I)J" } : Jvm.MethodName)) ∈ lw_all := lw_g (lw_at lw_m0 64 rfl) rfl
theorem q149 : (Jvm.Cond.methodLink "BitReaderLaw" (31 : Nat) ({ cls := "BitReader", name := "left", desc := "()I" } : Jvm.MethodName)) ∈ lw_all := lw_g (lw_at lw_m0 146 rfl) rfl
theorem q153 : (Jvm.Cond.constantLong "BitReaderLaw" (35 : Nat) (4294967296 : Int64)) ∈ lw_all := lw_g (lw_at lw_m0 150 rfl) rfl
theorem q154 : (Jvm.Cond.constantLong "BitReaderLaw" (37 : Nat) (4294967295 : Int64)) ∈ lw_all := lw_g (lw_at lw_m0 151 rfl) rfl
theorem q155 : (Jvm.Cond.methodLink "BitReaderLaw" (39 : Nat) ({ cls := "BitReader", name := "octet", desc := "()I" } : Jvm.MethodName)) ∈ lw_all := lw_g (lw_at lw_m0 152 rfl) rfl
theorem q163 : (Jvm.Cond.methodLink "BitReaderLaw" (42 : Nat) ({ cls := "BitReader", name := "bit", desc := "()I" } : Jvm.MethodName)) ∈ lw_all := lw_g (lw_at lw_m0 160 rfl) rfl
theorem q171 : (Jvm.Cond.methodLink "BitReaderLaw" (62 : Nat) ({ cls := "BitReaderLaw", name := "askedWhole", desc := "([I)Z" } : Jvm.MethodName)) ∈ lw_all := lw_g (lw_at lw_m0 168 rfl) rfl
theorem q172 : (Jvm.Cond.static ({ cls := "BitReaderLaw", name := "askedWhole", desc := "([I)Z" } : Jvm.MethodName)) ∈ lw_all := lw_g (lw_at lw_m0 169 rfl) rfl
theorem q173 : (Jvm.Cond.code ({ cls := "BitReaderLaw", name := "askedWhole", desc := "([I)Z" } : Jvm.MethodName) method_7_code (10 : Nat) (Option.some Jvm.ClassFile.FieldType.boolean)) ∈ lw_all := lw_g (lw_at lw_m0 170 rfl) rfl
theorem q174 : (Jvm.Cond.methodLink "BitReaderLaw" (48 : Nat) ({ cls := "BitReaderLaw", name := "askedMade", desc := "([I)LBitReader;" } : Jvm.MethodName)) ∈ lw_all := lw_g (lw_at lw_m0 171 rfl) rfl
theorem q175 : (Jvm.Cond.static ({ cls := "BitReaderLaw", name := "askedMade", desc := "([I)LBitReader;" } : Jvm.MethodName)) ∈ lw_all := lw_g (lw_at lw_m0 172 rfl) rfl
theorem q176 : (Jvm.Cond.code ({ cls := "BitReaderLaw", name := "askedMade", desc := "([I)LBitReader;" } : Jvm.MethodName) method_6_code (3 : Nat) (Option.some (Jvm.ClassFile.FieldType.object "BitReader"))) ∈ lw_all := lw_g (lw_at lw_m0 173 rfl) rfl
theorem q177 : (Jvm.Cond.methodLink "BitReaderLaw" (45 : Nat) ({ cls := "BitReaderLaw", name := "askedCell", desc := "([II)I" } : Jvm.MethodName)) ∈ lw_all := lw_g (lw_at lw_m0 174 rfl) rfl
theorem q178 : (Jvm.Cond.static ({ cls := "BitReaderLaw", name := "askedCell", desc := "([II)I" } : Jvm.MethodName)) ∈ lw_all := lw_g (lw_at lw_m0 175 rfl) rfl
theorem q179 : (Jvm.Cond.code ({ cls := "BitReaderLaw", name := "askedCell", desc := "([II)I" } : Jvm.MethodName) method_5_code (2 : Nat) (Option.some Jvm.ClassFile.FieldType.int)) ∈ lw_all := lw_g (lw_at lw_m0 176 rfl) rfl
theorem q180 : (Jvm.Cond.methodLink "BitReaderLaw" (65 : Nat) ({ cls := "BitReaderLaw", name := "askedBegun", desc := "([I)Z" } : Jvm.MethodName)) ∈ lw_all := lw_g (lw_at lw_m0 177 rfl) rfl
theorem q181 : (Jvm.Cond.static ({ cls := "BitReaderLaw", name := "askedBegun", desc := "([I)Z" } : Jvm.MethodName)) ∈ lw_all := lw_g (lw_at lw_m0 178 rfl) rfl
theorem q182 : (Jvm.Cond.code ({ cls := "BitReaderLaw", name := "askedBegun", desc := "([I)Z" } : Jvm.MethodName) method_8_code (2 : Nat) (Option.some Jvm.ClassFile.FieldType.boolean)) ∈ lw_all := lw_g (lw_at lw_m0 179 rfl) rfl
theorem q183 : (Jvm.Cond.methodLink "BitReaderLaw" (51 : Nat) ({ cls := "BitReader", name := "size", desc := "()I" } : Jvm.MethodName)) ∈ lw_all := lw_g (lw_at lw_m0 180 rfl) rfl
theorem q187 : (Jvm.Cond.methodLink "BitReaderLaw" (54 : Nat) ({ cls := "BitReader", name := "trim", desc := "(I)V" } : Jvm.MethodName)) ∈ lw_all := lw_g (lw_at lw_m0 184 rfl) rfl
theorem q196 : (Jvm.Cond.methodLink "BitReaderLaw" (68 : Nat) ({ cls := "BitReaderLaw", name := "askedMost", desc := "()Z" } : Jvm.MethodName)) ∈ lw_all := lw_g (lw_at lw_m0 193 rfl) rfl
theorem q197 : (Jvm.Cond.static ({ cls := "BitReaderLaw", name := "askedMost", desc := "()Z" } : Jvm.MethodName)) ∈ lw_all := lw_g (lw_at lw_m0 194 rfl) rfl
theorem q198 : (Jvm.Cond.code ({ cls := "BitReaderLaw", name := "askedMost", desc := "()Z" } : Jvm.MethodName) method_9_code (2 : Nat) (Option.some Jvm.ClassFile.FieldType.boolean)) ∈ lw_all := lw_g (lw_at lw_m0 195 rfl) rfl
/-! the law's own entry -/
set_option maxRecDepth 100000
abbrev cL_law : ByteArray := code
def dkwL_law_1 : List UInt8 := [153, 0, 7, 4, 167, 0, 4, 3, 172]
abbrev dktL_law_1 : List UInt8 := dkwL_law_1 ++ []
def dkwL_law_0 : List UInt8 := [42, 184, 0, 58, 153, 0, 27, 42, 184, 0, 62, 153, 0, 20, 42, 184, 0, 65, 153, 0, 13, 184, 0, 68]
abbrev dktL_law_0 : List UInt8 := dkwL_law_0 ++ dktL_law_1
theorem dksL_law_0 : cL_law.data.toList.drop 0 = dktL_law_0 := by decide +kernel
theorem dksL_law_1 : cL_law.data.toList.drop 24 = dktL_law_1 := dk_seg dksL_law_0 24 rfl rfl
theorem dL_law_0 : decode cL_law 0 = .ok (.aload_n 0, 1) := dk_42 (dk_at dksL_law_0 0 rfl rfl)
theorem dL_law_1 : decode cL_law 1 = .ok (.invokestatic 58, 3) := dk_184 0 58 (dk_at dksL_law_0 1 rfl rfl)
theorem dL_law_4 : decode cL_law 4 = .ok (.ifCond .eq 27, 3) := dk_153 0 27 (dk_at dksL_law_0 4 rfl rfl)
theorem dL_law_7 : decode cL_law 7 = .ok (.aload_n 0, 1) := dk_42 (dk_at dksL_law_0 7 rfl rfl)
theorem dL_law_8 : decode cL_law 8 = .ok (.invokestatic 62, 3) := dk_184 0 62 (dk_at dksL_law_0 8 rfl rfl)
theorem dL_law_11 : decode cL_law 11 = .ok (.ifCond .eq 20, 3) := dk_153 0 20 (dk_at dksL_law_0 11 rfl rfl)
theorem dL_law_14 : decode cL_law 14 = .ok (.aload_n 0, 1) := dk_42 (dk_at dksL_law_0 14 rfl rfl)
theorem dL_law_15 : decode cL_law 15 = .ok (.invokestatic 65, 3) := dk_184 0 65 (dk_at dksL_law_0 15 rfl rfl)
theorem dL_law_18 : decode cL_law 18 = .ok (.ifCond .eq 13, 3) := dk_153 0 13 (dk_at dksL_law_0 18 rfl rfl)
theorem dL_law_21 : decode cL_law 21 = .ok (.invokestatic 68, 3) := dk_184 0 68 (dk_at dksL_law_0 21 rfl rfl)
theorem dL_law_24 : decode cL_law 24 = .ok (.ifCond .eq 7, 3) := dk_153 0 7 (dk_at dksL_law_1 0 rfl rfl)
theorem dL_law_27 : decode cL_law 27 = .ok (.iconst 1, 1) := dk_4 (dk_at dksL_law_1 3 rfl rfl)
theorem dL_law_28 : decode cL_law 28 = .ok (.goto 4, 3) := dk_167 0 4 (dk_at dksL_law_1 4 rfl rfl)
theorem dL_law_31 : decode cL_law 31 = .ok (.iconst 0, 1) := dk_3 (dk_at dksL_law_1 7 rfl rfl)
theorem dL_law_32 : decode cL_law 32 = .ok (.ireturn, 1) := dk_172 (dk_at dksL_law_1 8 rfl rfl)
end
section
/-! GENERAL ROWS: the two classes' worlds, contracts of one shape, calls with the frame, branches on naturals -/
set_option maxRecDepth 100000
abbrev vwCl : List vw_C := [(RX1, TX1, 3), (RX2, TX2, 3)]
/-- the reader itself: its text at qt, z bytes put, its source at qs -/
abbrev cR (q qt z qs : Nat) : Nat × va_E := (q, .inr (0, [.ref qt, .int (nI z), .ref qs]))
/-- a text: 4096 bytes -/
abbrev cT (qt : Nat) (dB : ClassId) (f : Nat → Int32) : Nat × va_E := (qt, .inl (dB, 4096, .inl f))
/-- a source over the bytes at qb, p bits read -/
abbrev cS (qs qb p : Nat) : Nat × va_E := (qs, .inr (1, [.ref qb, .int (nI (p / 8)), .int (nI (p % 8))]))
/-- a source's n bytes -/
abbrev cB (qb : Nat) (dB : ClassId) (n : Nat) (g : Nat → Int32) : Nat × va_E := (qb, .inl (dB, n, .inl g))
/-- the whole of a reader -/
abbrev cW (q qt qs qb : Nat) (dB : ClassId) (z : Nat) (f : Nat → Int32) (p n : Nat) (g : Nat → Int32) : va_W := [cR q qt z qs, cT qt dB f, cS qs qb p, cB qb dB n g]
/-- a contract's start: the world wc, at a heap of sz cells -/
abbrev k_Pc (D : va_G) (tys : List (ClassId × FieldType)) (av : List Value) (wc : va_W) (sz : Nat) : Array Value → State → Prop :=
  va_Pc av (fun U => U.heap.size = sz ∧ va_P D vwCl wc U.heap ∧ va_K D vwCl tys U ∧ va_D (fun _ => True) wc)
/-- a contract's start with the script at b -/
abbrev k_Px (D : va_G) (tys : List (ClassId × FieldType)) (av : List Value) (b L : Nat) (xs : Nat → Int32) (sz : Nat) : Array Value → State → Prop :=
  va_Pc av (fun U => U.heap.size = sz ∧ va_K D vwCl tys U ∧ va_X b L xs U U.heap ∧ b < sz)
/-- a contract's start without any cell -/
abbrev k_P0 (D : va_G) (tys : List (ClassId × FieldType)) (sz : Nat) : Array Value → State → Prop :=
  va_Pc [] (fun U => U.heap.size = sz ∧ va_K D vwCl tys U)
/-- a contract's end: the world w1 u -/
abbrev k_B (D : va_G) (tys : List (ClassId × FieldType)) (A : Nat → Prop) {S : Type} (w1 : S → va_W) : S → State → Prop :=
  fun u t => va_P D vwCl (w1 u) t.heap ∧ va_K D vwCl tys t ∧ va_D A (w1 u)
abbrev k_Br (D : va_G) (tys : List (ClassId × FieldType)) (A : Nat → Prop) {S : Type} (w1 : S → Nat → va_W) : S → Nat → State → Prop :=
  fun u a t => va_P D vwCl (w1 u a) t.heap ∧ va_K D vwCl tys t ∧ va_D A (w1 u a)
theorem k_preS {s : State} {H : Heap} {D : va_G} {tys : List (ClassId × FieldType)} {wc : va_W} {A : Nat → Prop} (hP : va_P D vwCl wc H) (hK : va_K D vwCl tys s) (hD : va_D A wc) (av : List Value) : PreS s H (k_Pc D tys av wc H.size) av :=
  ⟨fun a U g mk q => by obtain ⟨q0, q1, qP, qK, qD⟩ := q; exact ⟨q0, q1, qP, va_K.moved (u := U) (U := U.calling g mk a) (Vm.Alike.refl U.vm) qK, qD⟩, fun U hU hW => ⟨rfl, by rw [hU], by rw [hU]; exact hP, va_K.moved hW.alike hK, hD.weaken (fun _ _ _ _ => trivial)⟩⟩
theorem k_preV {s : State} {H : Heap} {D : va_G} {tys : List (ClassId × FieldType)} {wc : va_W} {A : Nat → Prop} {C : String} {T : u_T} {N b : Nat} {fs : List Value} (hP : va_P D vwCl wc H) (hK : va_K D vwCl tys s) (hD : va_D A wc) (ci q0 : Nat) (hc : vwCl[ci]? = some (C, T, N)) (he : wc[q0]? = some (b, .inr (ci, fs))) (av : List Value) : PreV s H C b (k_Pc D tys (.ref b :: av) wc H.size) av :=
  ⟨fun a U g mk q => by obtain ⟨q0, q1, qP, qK, qD⟩ := q; exact ⟨q0, q1, qP, va_K.moved (u := U) (U := U.calling g mk a) (Vm.Alike.refl U.vm) qK, qD⟩, va_recv (q := (C, T, N)) hK hP hc he, fun U hU hW => ⟨rfl, by rw [hU], by rw [hU]; exact hP, va_K.moved hW.alike hK, hD.weaken (fun _ _ _ _ => trivial)⟩⟩
theorem k_preX {s : State} {H H0 : Heap} {D : va_G} {tys : List (ClassId × FieldType)} {A : Nat → Prop} {locs : List Loc} {b L : Nat} {xs : Nat → Int32} (hK : va_K D vwCl tys s) (hX : va_X b L xs s H0) (hbl : b < H0.size) (hbA : ¬ A b) (hS : va_S A H0 H locs) (av : List Value) : PreS s H (k_Px D tys av b L xs H.size) av :=
  ⟨fun a U g mk q => by obtain ⟨q0, q1, qK, qX, qb⟩ := q; exact ⟨q0, q1, va_K.moved (u := U) (U := U.calling g mk a) (Vm.Alike.refl U.vm) qK, va_X.moved (u := U) (U := U.calling g mk a) (Vm.Alike.refl U.vm) qX, qb⟩, fun U hU hW => ⟨rfl, by rw [hU], va_K.moved hW.alike hK, by rw [hU]; exact va_X.moved hW.alike (hX.kept (hS.2.1 b hbl hbA)), Nat.lt_of_lt_of_le hbl hS.1⟩⟩
theorem k_pre0 {s : State} {H : Heap} {D : va_G} {tys : List (ClassId × FieldType)} (hK : va_K D vwCl tys s) : PreS s H (k_P0 D tys H.size) [] :=
  ⟨fun a U g mk q => by obtain ⟨q0, q1, qK⟩ := q; exact ⟨q0, q1, va_K.moved (u := U) (U := U.calling g mk a) (Vm.Alike.refl U.vm) qK⟩, fun U hU hW => ⟨rfl, by rw [hU], va_K.moved hW.alike hK⟩⟩
/-- one class of byte arrays alone -/
theorem k_dB {s : State} {D : va_G} {d1 d2 : ClassId} (h : va_K D vwCl [(d1, .byte), (d2, .byte)] s) : d1 = d2 := by
  have h1 : s.vm.findClass ("[" ++ FieldType.byte.toString) = some d1 := (h.2 0 (d1, .byte) rfl).2
  have h2 : s.vm.findClass ("[" ++ FieldType.byte.toString) = some d2 := (h.2 1 (d2, .byte) rfl).2
  exact Option.some.inj (h1.symm.trans h2)
/-- cells of a world in another order -/
theorem k_Psub {D : va_G} {ws ws' : va_W} {H : Heap} (h : va_P D vwCl ws H) (is : List Nat) (hs : is.map (fun i => ws[i]?) = ws'.map some) : va_P D vwCl ws' H := by
  intro k q hk
  have h1 : (is.map (fun i => ws[i]?))[k]? = some (some q) := by rw [hs, List.getElem?_map, hk]; rfl
  rw [List.getElem?_map] at h1
  cases hi : is[k]? with
  | none => rw [hi] at h1; cases h1
  | some i => rw [hi] at h1; exact h i q (Option.some.inj h1)
section KW
variable {p : Program} {l : Launch} {e : Env} {R : Room} {s : State} {m : MethodId} {args : Array Value} {below : List Frame} {meth : Method} {c : Code} {H : Heap} {locs : List Loc} {cells slots : Nat} {Q : State → Prop}
variable {cc : ByteArray} {pc : Nat} {ls : Array Slot} {rest st0 : List Value} {D : va_G} {tys : List (ClassId × FieldType)} {A : Nat → Prop} {H0 : Heap} {a : Array Value} {mc ms : Nat} {ws wc wr : va_W}
/-- the number on top has another form -/
theorem k_is {x y : Int32} (h : x = y) (k : W p l e R s m args below meth c H locs cells slots Q (F0 m pc ls (.int y :: rest))) : W p l e R s m args below meth c H locs cells slots Q (F0 m pc ls (.int x :: rest)) := by rw [h]; exact k
theorem k_isl {x y : Int64} (h : x = y) (k : W p l e R s m args below meth c H locs cells slots Q (F0 m pc ls (.long y :: rest))) : W p l e R s m args below meth c H locs cells slots Q (F0 m pc ls (.long x :: rest)) := by rw [h]; exact k
/-- a call that answers an int, with the frame; the world behind it in the order isN -/
theorem k_calli {S : Type} {post : Int32 → S → Prop} {w1 w2 : S → va_W} (hr : va_Run p l e R s m args below meth c H locs cells slots mc ms (F0 m pc ls st0) rest (va_Qi post (k_B D tys (va_A wc H.size) w1) (va_A wc H.size) a) (va_A wc H.size)) (hP : va_P D vwCl ws H) (hD : va_D A ws) (hS : va_S A H0 H locs) (hA : ∀ q, H0.size ≤ q → A q) (isC isR isN : List Nat) (hC : isC.map (fun i => ws[i]?) = wc.map some) (hR : isR.map (fun i => ws[i]?) = wr.map some) (hn : va_nd isR = true) (hdis : ∀ i ∈ isR, i ∉ isC) (hN : ∀ u, isN.map (fun i => (wr ++ w1 u)[i]?) = (w2 u).map some) (hnn : va_nd isN = true)
    (kk : ∀ (r : Int32) (u : S) (H : Heap) (locs : List Loc), post r u → va_P D vwCl (w2 u) H → va_D A (w2 u) → va_S A H0 H locs → W p l e R s m args below meth c H locs (cells + mc) (slots + ms) Q (F0 m (pc + 3) ls (.int r :: rest))) : W p l e R s m args below meth c H locs cells slots Q (F0 m pc ls st0) := by
  have hFc := va_free hD hS hA isC hC
  refine va_calli hr hS (fun q _ h => hFc q h) hFc (fun r u t H1 locs1 ht hvm hp hB hz hk hS1 => ?_)
  obtain ⟨hP1, hK1, hD1⟩ := hB
  rw [ht] at hP1
  obtain ⟨hP2, hD2⟩ := va_join hP hD isC isR hC hR hn hdis hk hFc hP1 hD1
  exact kk r u H1 locs1 hp (k_Psub hP2 isN (hN u)) (hD2.sub isN hnn (hN u)) hS1
theorem k_calll {S : Type} {post : Int64 → S → Prop} {w1 w2 : S → va_W} (hr : va_Run p l e R s m args below meth c H locs cells slots mc ms (F0 m pc ls st0) rest (va_Ql post (k_B D tys (va_A wc H.size) w1) (va_A wc H.size) a) (va_A wc H.size)) (hP : va_P D vwCl ws H) (hD : va_D A ws) (hS : va_S A H0 H locs) (hA : ∀ q, H0.size ≤ q → A q) (isC isR isN : List Nat) (hC : isC.map (fun i => ws[i]?) = wc.map some) (hR : isR.map (fun i => ws[i]?) = wr.map some) (hn : va_nd isR = true) (hdis : ∀ i ∈ isR, i ∉ isC) (hN : ∀ u, isN.map (fun i => (wr ++ w1 u)[i]?) = (w2 u).map some) (hnn : va_nd isN = true)
    (kk : ∀ (r : Int64) (u : S) (H : Heap) (locs : List Loc), post r u → va_P D vwCl (w2 u) H → va_D A (w2 u) → va_S A H0 H locs → W p l e R s m args below meth c H locs (cells + mc) (slots + ms) Q (F0 m (pc + 3) ls (.long r :: rest))) : W p l e R s m args below meth c H locs cells slots Q (F0 m pc ls st0) := by
  have hFc := va_free hD hS hA isC hC
  refine va_calll hr hS (fun q _ h => hFc q h) hFc (fun r u t H1 locs1 ht hvm hp hB hz hk hS1 => ?_)
  obtain ⟨hP1, hK1, hD1⟩ := hB
  rw [ht] at hP1
  obtain ⟨hP2, hD2⟩ := va_join hP hD isC isR hC hR hn hdis hk hFc hP1 hD1
  exact kk r u H1 locs1 hp (k_Psub hP2 isN (hN u)) (hD2.sub isN hnn (hN u)) hS1
theorem k_callv {S : Type} {post : S → Prop} {w1 w2 : S → va_W} (hr : va_Run p l e R s m args below meth c H locs cells slots mc ms (F0 m pc ls st0) rest (va_Qv post (k_B D tys (va_A wc H.size) w1) (va_A wc H.size) a) (va_A wc H.size)) (hP : va_P D vwCl ws H) (hD : va_D A ws) (hS : va_S A H0 H locs) (hA : ∀ q, H0.size ≤ q → A q) (isC isR isN : List Nat) (hC : isC.map (fun i => ws[i]?) = wc.map some) (hR : isR.map (fun i => ws[i]?) = wr.map some) (hn : va_nd isR = true) (hdis : ∀ i ∈ isR, i ∉ isC) (hN : ∀ u, isN.map (fun i => (wr ++ w1 u)[i]?) = (w2 u).map some) (hnn : va_nd isN = true)
    (kk : ∀ (u : S) (H : Heap) (locs : List Loc), post u → va_P D vwCl (w2 u) H → va_D A (w2 u) → va_S A H0 H locs → W p l e R s m args below meth c H locs (cells + mc) (slots + ms) Q (F0 m (pc + 3) ls rest)) : W p l e R s m args below meth c H locs cells slots Q (F0 m pc ls st0) := by
  have hFc := va_free hD hS hA isC hC
  refine va_callv hr hS (fun q _ h => hFc q h) hFc (fun u t H1 locs1 ht hvm hp hB hz hk hS1 => ?_)
  obtain ⟨hP1, hK1, hD1⟩ := hB
  rw [ht] at hP1
  obtain ⟨hP2, hD2⟩ := va_join hP hD isC isR hC hR hn hdis hk hFc hP1 hD1
  exact kk u H1 locs1 hp (k_Psub hP2 isN (hN u)) (hD2.sub isN hnn (hN u)) hS1
/-- a call that answers a new object: no cell of the caller's goes in -/
theorem k_callr {S : Type} {post : S → Prop} {w1 : S → Nat → va_W} (hr : va_Run p l e R s m args below meth c H locs cells slots mc ms (F0 m pc ls st0) rest (va_Qr post (k_Br D tys (va_A [] H.size) w1) (va_A [] H.size) a) (va_A [] H.size)) (hP : va_P D vwCl ws H) (hD : va_D A ws) (hS : va_S A H0 H locs) (hA : ∀ q, H0.size ≤ q → A q) (isR : List Nat) (hR : isR.map (fun i => ws[i]?) = ws.map some) (hn : va_nd isR = true)
    (kk : ∀ (u : S) (ra : Nat) (H : Heap) (locs : List Loc), post u → va_P D vwCl (ws ++ w1 u ra) H → va_D A (ws ++ w1 u ra) → va_S A H0 H locs → W p l e R s m args below meth c H locs (cells + mc) (slots + ms) Q (F0 m (pc + 3) ls (.ref ra :: rest))) : W p l e R s m args below meth c H locs cells slots Q (F0 m pc ls st0) := by
  have hFc := va_free hD hS hA [] (wc := []) rfl
  refine va_callr hr hS (fun q _ h => hFc q h) hFc (fun u ra t H1 locs1 ht hvm hp hB hz hk hS1 => ?_)
  obtain ⟨hP1, hK1, hD1⟩ := hB
  rw [ht] at hP1
  obtain ⟨hP2, hD2⟩ := va_join hP hD [] isR rfl hR hn (fun _ _ h => by cases h) hk hFc hP1 hD1
  exact kk u ra H1 locs1 hp hP2 hD2 hS1
/-- a call that answers an int and leaves every old cell as it is: the world stays -/
theorem k_callx {S : Type} {post : Int32 → S → Prop} {B : S → State → Prop} (hr : va_Run p l e R s m args below meth c H locs cells slots mc ms (F0 m pc ls st0) rest (va_Qi post B (va_A [] H.size) a) (va_A [] H.size)) (hP : va_P D vwCl ws H) (hS : va_S A H0 H locs) (hA : ∀ q, H0.size ≤ q → A q)
    (kk : ∀ (r : Int32) (u : S) (H : Heap) (locs : List Loc), post r u → va_P D vwCl ws H → va_S A H0 H locs → W p l e R s m args below meth c H locs (cells + mc) (slots + ms) Q (F0 m (pc + 3) ls (.int r :: rest))) : W p l e R s m args below meth c H locs cells slots Q (F0 m pc ls st0) := by
  have hno : ∀ q, va_A [] H.size q → H.size ≤ q := fun q h => by
    rcases h with ⟨k, x, h⟩ | h
    · simp at h
    · exact h
  have hFc : ∀ q, va_A [] H.size q → A q := fun q h => hA q (Nat.le_trans hS.1 (hno q h))
  refine va_calli hr hS (fun q _ h => hFc q h) hFc (fun r u t H1 locs1 ht hvm hp hB hz hk hS1 => ?_)
  refine kk r u H1 locs1 hp (hP.kept (fun k q hq => hk q.1 (hP k q hq).lt (fun h => ?_))) hS1
  have h1 := (hP k q hq).lt
  have h2 := hno _ h
  omega
/-! branches on naturals -/
theorem k_ge {a b : Nat} (hexec : p.tables.exec = Jvm.exec) (hb : c.code = cc) {off : Int} {tgt : Nat} (hdg : decode cc pc = .ok (.if_icmp .ge off, 3)) (ht : (pc : Int) + off = (tgt : Int)) (h1 : a < 2 ^ 31) (h2 : b < 2 ^ 31)
    (kt : b ≤ a → W p l e R s m args below meth c H locs cells slots Q (F0 m tgt ls rest)) (kf : a < b → W p l e R s m args below meth c H locs cells slots Q (F0 m (pc + 3) ls rest)) : W p l e R s m args below meth c H locs cells slots Q (F0 m pc ls (.int (nI b) :: .int (nI a) :: rest)) :=
  lv_icmp_ge hexec hb hdg ht (fun h => kt ((nI_leI h2 h1).mp h)) (fun h => kf (Nat.lt_of_not_le (fun q => h ((nI_leI h2 h1).mpr q))))
theorem k_lt {a b : Nat} (hexec : p.tables.exec = Jvm.exec) (hb : c.code = cc) {off : Int} {tgt : Nat} (hdg : decode cc pc = .ok (.if_icmp .lt off, 3)) (ht : (pc : Int) + off = (tgt : Int)) (h1 : a < 2 ^ 31) (h2 : b < 2 ^ 31)
    (kt : a < b → W p l e R s m args below meth c H locs cells slots Q (F0 m tgt ls rest)) (kf : b ≤ a → W p l e R s m args below meth c H locs cells slots Q (F0 m (pc + 3) ls rest)) : W p l e R s m args below meth c H locs cells slots Q (F0 m pc ls (.int (nI b) :: .int (nI a) :: rest)) :=
  lv_icmp_lt hexec hb hdg ht (fun h => kt ((nI_ltI h1 h2).mp h)) (fun h => kf (Nat.le_of_not_lt (fun q => h ((nI_ltI h1 h2).mpr q))))
theorem k_gt {a b : Nat} (hexec : p.tables.exec = Jvm.exec) (hb : c.code = cc) {off : Int} {tgt : Nat} (hdg : decode cc pc = .ok (.if_icmp .gt off, 3)) (ht : (pc : Int) + off = (tgt : Int)) (h1 : a < 2 ^ 31) (h2 : b < 2 ^ 31)
    (kt : b < a → W p l e R s m args below meth c H locs cells slots Q (F0 m tgt ls rest)) (kf : a ≤ b → W p l e R s m args below meth c H locs cells slots Q (F0 m (pc + 3) ls rest)) : W p l e R s m args below meth c H locs cells slots Q (F0 m pc ls (.int (nI b) :: .int (nI a) :: rest)) :=
  lv_icmp_gt hexec hb hdg ht (fun h => kt ((nI_ltI h2 h1).mp h)) (fun h => kf (Nat.le_of_not_lt (fun q => h ((nI_ltI h2 h1).mpr q))))
theorem k_le {a b : Nat} (hexec : p.tables.exec = Jvm.exec) (hb : c.code = cc) {off : Int} {tgt : Nat} (hdg : decode cc pc = .ok (.if_icmp .le off, 3)) (ht : (pc : Int) + off = (tgt : Int)) (h1 : a < 2 ^ 31) (h2 : b < 2 ^ 31)
    (kt : a ≤ b → W p l e R s m args below meth c H locs cells slots Q (F0 m tgt ls rest)) (kf : b < a → W p l e R s m args below meth c H locs cells slots Q (F0 m (pc + 3) ls rest)) : W p l e R s m args below meth c H locs cells slots Q (F0 m pc ls (.int (nI b) :: .int (nI a) :: rest)) :=
  lv_icmp_le hexec hb hdg ht (fun h => kt ((nI_leI h1 h2).mp h)) (fun h => kf (Nat.lt_of_not_le (fun q => h ((nI_leI h1 h2).mpr q))))
theorem k_eq {a b : Nat} (hexec : p.tables.exec = Jvm.exec) (hb : c.code = cc) {off : Int} {tgt : Nat} (hdg : decode cc pc = .ok (.if_icmp .eq off, 3)) (ht : (pc : Int) + off = (tgt : Int)) (h1 : a < 2 ^ 31) (h2 : b < 2 ^ 31)
    (kt : a = b → W p l e R s m args below meth c H locs cells slots Q (F0 m tgt ls rest)) (kf : a ≠ b → W p l e R s m args below meth c H locs cells slots Q (F0 m (pc + 3) ls rest)) : W p l e R s m args below meth c H locs cells slots Q (F0 m pc ls (.int (nI b) :: .int (nI a) :: rest)) :=
  lv_icmp_eq hexec hb hdg ht (fun h => kt ((nI_eq h1 h2).mp h)) (fun h => kf (fun q => h ((nI_eq h1 h2).mpr q)))
theorem k_ne {a b : Nat} (hexec : p.tables.exec = Jvm.exec) (hb : c.code = cc) {off : Int} {tgt : Nat} (hdg : decode cc pc = .ok (.if_icmp .ne off, 3)) (ht : (pc : Int) + off = (tgt : Int)) (h1 : a < 2 ^ 31) (h2 : b < 2 ^ 31)
    (kt : a ≠ b → W p l e R s m args below meth c H locs cells slots Q (F0 m tgt ls rest)) (kf : a = b → W p l e R s m args below meth c H locs cells slots Q (F0 m (pc + 3) ls rest)) : W p l e R s m args below meth c H locs cells slots Q (F0 m pc ls (.int (nI b) :: .int (nI a) :: rest)) :=
  lv_icmp_ne hexec hb hdg ht (fun h => kt (fun q => h ((nI_eq h1 h2).mpr q))) (fun h => kf ((nI_eq h1 h2).mp h))
theorem k_le0 {a : Nat} (hexec : p.tables.exec = Jvm.exec) (hb : c.code = cc) {off : Int} {tgt : Nat} (hdg : decode cc pc = .ok (.ifCond .le off, 3)) (ht : (pc : Int) + off = (tgt : Int)) (h1 : a < 2 ^ 31)
    (kt : a = 0 → W p l e R s m args below meth c H locs cells slots Q (F0 m tgt ls rest)) (kf : 0 < a → W p l e R s m args below meth c H locs cells slots Q (F0 m (pc + 3) ls rest)) : W p l e R s m args below meth c H locs cells slots Q (F0 m pc ls (.int (nI a) :: rest)) :=
  lv_if_le hexec hb hdg ht (fun h => kt (Classical.byContradiction (fun q => nI_nle (Nat.pos_of_ne_zero q) h1 h))) (fun h => kf (Nat.pos_of_ne_zero (fun q => h (by rw [q]; decide))))
theorem k_eq0 {a : Nat} (hexec : p.tables.exec = Jvm.exec) (hb : c.code = cc) {off : Int} {tgt : Nat} (hdg : decode cc pc = .ok (.ifCond .eq off, 3)) (ht : (pc : Int) + off = (tgt : Int)) (h1 : a < 2 ^ 31)
    (kt : a = 0 → W p l e R s m args below meth c H locs cells slots Q (F0 m tgt ls rest)) (kf : a ≠ 0 → W p l e R s m args below meth c H locs cells slots Q (F0 m (pc + 3) ls rest)) : W p l e R s m args below meth c H locs cells slots Q (F0 m pc ls (.int (nI a) :: rest)) :=
  lv_if_eq hexec hb hdg ht (fun h => kt (Classical.byContradiction (fun q => nI_ne0 (Nat.pos_of_ne_zero q) h1 h))) (fun h => kf (fun q => h (by rw [q]; decide)))
theorem k_ne0 {a : Nat} (hexec : p.tables.exec = Jvm.exec) (hb : c.code = cc) {off : Int} {tgt : Nat} (hdg : decode cc pc = .ok (.ifCond .ne off, 3)) (ht : (pc : Int) + off = (tgt : Int)) (h1 : a < 2 ^ 31)
    (kt : a ≠ 0 → W p l e R s m args below meth c H locs cells slots Q (F0 m tgt ls rest)) (kf : a = 0 → W p l e R s m args below meth c H locs cells slots Q (F0 m (pc + 3) ls rest)) : W p l e R s m args below meth c H locs cells slots Q (F0 m pc ls (.int (nI a) :: rest)) :=
  lv_if_ne hexec hb hdg ht (fun h => kt (fun q => h (by rw [q]; decide))) (fun h => kf (Classical.byContradiction (fun q => nI_ne0 (Nat.pos_of_ne_zero q) h1 h)))
/-- two longs that are the same: their compare is 0 -/
theorem k_cmp0 {x y : Int64} (h : x = y) : lg_cmp x y = nI 0 := (lg_cmp_eq x y).mpr h
end KW
end
section
/-! PURE LAWS: bits of a text of bytes, as numbers; the Int32 and Int64 forms that the bytecode takes -/
set_option maxRecDepth 100000
/-- the byte that an int keeps -/
def zb_byt (x : Int32) : Nat := x.toBitVec.toNat % 256
/-- bit p of a text, the first of a byte being its highest -/
def zb_bit (T : Nat → Nat) (p : Nat) : Nat := T (p / 8) / 2 ^ (7 - p % 8) % 2
/-- the number that k bits from p on make -/
def zb_num (T : Nat → Nat) (p : Nat) : Nat → Nat
  | 0 => 0
  | k + 1 => 2 * zb_num T p k + zb_bit T (p + k)
theorem zb_num_0 (T : Nat → Nat) (p : Nat) : zb_num T p 0 = 0 := rfl
theorem zb_num_s (T : Nat → Nat) (p k : Nat) : zb_num T p (k + 1) = 2 * zb_num T p k + zb_bit T (p + k) := rfl
theorem zb_bit_lt (T : Nat → Nat) (p : Nat) : zb_bit T p < 2 := Nat.mod_lt _ (by decide)
theorem zb_byt_lt (x : Int32) : zb_byt x < 256 := Nat.mod_lt _ (by decide)
theorem zb_num_lt (T : Nat → Nat) (p : Nat) : ∀ k, zb_num T p k < 2 ^ k := by
  intro k
  induction k with
  | zero => exact Nat.one_pos
  | succ k ih =>
    have hb := zb_bit_lt T (p + k)
    rw [zb_num_s, Nat.pow_succ]
    generalize 2 ^ k = z at ih ⊢
    omega
theorem zb_num_add (T : Nat → Nat) (p j : Nat) : ∀ r, zb_num T p (j + r) = zb_num T p j * 2 ^ r + zb_num T (p + j) r := by
  intro r
  induction r with
  | zero => rw [Nat.add_zero, Nat.pow_zero, Nat.mul_one, zb_num_0, Nat.add_zero]
  | succ r ih =>
    have e1 : zb_num T p (j + (r + 1)) = 2 * zb_num T p (j + r) + zb_bit T (p + (j + r)) := rfl
    have e2 : zb_num T p j * 2 ^ (r + 1) = 2 * (zb_num T p j * 2 ^ r) := by rw [Nat.pow_succ, ← Nat.mul_assoc, Nat.mul_comm]
    rw [e1, ih, e2, zb_num_s, Nat.add_assoc p j r, Nat.mul_add, Nat.add_assoc]
theorem zb_num_in (T : Nat → Nat) (p : Nat) : ∀ r, p % 8 + r ≤ 8 → zb_num T p r = T (p / 8) / 2 ^ (8 - p % 8 - r) % 2 ^ r := by
  intro r
  induction r with
  | zero => intro _; rw [zb_num_0, Nat.pow_zero, Nat.mod_one]
  | succ r ih =>
    intro h
    have ih := ih (by omega)
    have hd : (p + r) / 8 = p / 8 := by omega
    have hm : (p + r) % 8 = p % 8 + r := by omega
    have e1 : 8 - p % 8 - r = (8 - p % 8 - (r + 1)) + 1 := by omega
    have e2 : 7 - (p % 8 + r) = 8 - p % 8 - (r + 1) := by omega
    rw [zb_num_s, ih, zb_bit, hd, hm, e2]
    have e3 : T (p / 8) / 2 ^ (8 - p % 8 - r) = T (p / 8) / 2 ^ (8 - p % 8 - (r + 1)) / 2 := by
      rw [e1, Nat.pow_succ, Nat.div_div_eq_div_mul]
    rw [e3]
    generalize T (p / 8) / 2 ^ (8 - p % 8 - (r + 1)) = y
    have e4 : (2 : Nat) ^ (r + 1) = 2 * 2 ^ r := by rw [Nat.pow_succ, Nat.mul_comm]
    rw [e4, Nat.mod_mul]
    exact Nat.add_comm _ _
theorem zb_num_congr {T U : Nat → Nat} {N p : Nat} (h : ∀ i, i < N → T i = U i) : ∀ k, p + k ≤ 8 * N → zb_num T p k = zb_num U p k := by
  intro k
  induction k with
  | zero => intro _; rfl
  | succ k ih =>
    intro hk
    rw [zb_num_s, zb_num_s, ih (by omega), zb_bit, zb_bit, h ((p + k) / 8) (by omega)]
/-- a piece within one byte, behind j bits read -/
theorem zb_part (T : Nat → Nat) (p j r : Nat) (h : (p + j) % 8 + r ≤ 8) : zb_num T p (j + r) = zb_num T p j * 2 ^ r + T ((p + j) / 8) / 2 ^ (8 - (p + j) % 8 - r) % 2 ^ r := by
  rw [zb_num_add, zb_num_in T (p + j) r h]
/-- a whole byte -/
theorem zb_step8 (T : Nat → Nat) (p j : Nat) (h : (p + j) % 8 = 0) (hT : T ((p + j) / 8) < 256) : zb_num T p (j + 8) = zb_num T p j * 2 ^ 8 + T ((p + j) / 8) := by
  rw [zb_part T p j 8 (by omega), h]
  rw [show 8 - 0 - 8 = 0 from rfl, Nat.pow_zero, Nat.div_one, Nat.mod_eq_of_lt hT]
/-! Int32 -/
theorem zb_sl : ∀ n, n < 32 → ((nI n &&& 31).toBitVec.smod 32).toNat = n := by decide +kernel
theorem zb_su : ∀ n, n < 32 → (((nI n).toUInt32 &&& Int32.toUInt32 31).toBitVec % 32).toNat = n := by decide +kernel
theorem zb_self (x : Int32) : nI x.toBitVec.toNat = x := Int32.toBitVec_inj.mp (BitVec.eq_of_toNat_eq (pk_tn x.toBitVec.isLt))
theorem zb_shl {n r : Nat} (hr : r < 32) (h : n * 2 ^ r < 2 ^ 32) : nI n <<< (nI r &&& 31) = nI (n * 2 ^ r) := pk_shlN _ r (zb_sl r hr) h
theorem zb_shr {n r : Nat} (hr : r < 32) (h : n < 2 ^ 31) : nI n >>> (nI r &&& 31) = nI (n / 2 ^ r) := pk_shrN h _ r (zb_sl r hr)
theorem zb_orI (a b : Nat) : nI a ||| nI b = nI (a ||| b) := by
  apply Int32.toBitVec_inj.1
  show BitVec.ofNat 32 a ||| BitVec.ofNat 32 b = BitVec.ofNat 32 (a ||| b)
  apply BitVec.eq_of_getLsbD_eq
  intro i hi
  simp [hi]
theorem zb_andI (a b : Nat) : nI a &&& nI b = nI (a &&& b) := by
  apply Int32.toBitVec_inj.1
  show BitVec.ofNat 32 a &&& BitVec.ofNat 32 b = BitVec.ofNat 32 (a &&& b)
  apply BitVec.eq_of_getLsbD_eq
  intro i hi
  simp [hi]
theorem zb_or (b : Nat) {a r : Nat} (h : a < 2 ^ r) : nI (b * 2 ^ r) ||| nI a = nI (b * 2 ^ r + a) := by
  rw [zb_orI, Nat.mul_comm, Nat.two_pow_add_eq_or_of_lt h]
theorem zb_nat_msk (X r s : Nat) : (X &&& ((2 ^ r - 1) * 2 ^ s)) / 2 ^ s = X / 2 ^ s % 2 ^ r := by
  have e1 : (2 ^ r - 1) * 2 ^ s = (2 ^ r - 1) <<< s := (Nat.shiftLeft_eq _ _).symm
  have e2 : (X &&& ((2 ^ r - 1) <<< s)) / 2 ^ s = (X &&& ((2 ^ r - 1) <<< s)) >>> s := (Nat.shiftRight_eq_div_pow _ _).symm
  rw [e1, e2, Nat.shiftRight_and_distrib, Nat.shiftLeft_shiftRight, Nat.and_two_pow_sub_one_eq_mod, Nat.shiftRight_eq_div_pow]
theorem zb_nat_low (X r s : Nat) (h : r + s ≤ 8) : X % 256 / 2 ^ s % 2 ^ r = X / 2 ^ s % 2 ^ r := by
  have e0 : s + (8 - s) = 8 := by omega
  have e : 2 ^ s * 2 ^ (8 - s) = 2 ^ 8 := by rw [← Nat.pow_add, e0]
  have e5 : (256 : Nat) = 2 ^ s * 2 ^ (8 - s) := e.symm
  rw [e5, Nat.mod_mul_right_div_self, Nat.mod_mod_of_dvd _ (Nat.pow_dvd_pow 2 (by omega))]
theorem zb_mask_lt {r s : Nat} (h : r + s ≤ 8) : (2 ^ r - 1) * 2 ^ s < 2 ^ 31 := by
  refine Nat.lt_of_le_of_lt (Nat.mul_le_mul_right _ (Nat.sub_le _ _)) ?_
  rw [← Nat.pow_add]
  exact Nat.lt_of_le_of_lt (Nat.pow_le_pow_right (by decide) h) (by decide)
/-- the bits that a mask of r ones, s places up, leaves of an int, moved down -/
theorem zb_msk (x : Int32) {r s : Nat} (h : r + s ≤ 8) : (x &&& nI ((2 ^ r - 1) * 2 ^ s)) >>> (nI s &&& 31) = nI (zb_byt x / 2 ^ s % 2 ^ r) := by
  have e : x &&& nI ((2 ^ r - 1) * 2 ^ s) = nI (x.toBitVec.toNat &&& ((2 ^ r - 1) * 2 ^ s)) := by
    rw [← zb_andI, zb_self]
  have hlt : x.toBitVec.toNat &&& ((2 ^ r - 1) * 2 ^ s) < 2 ^ 31 := Nat.lt_of_le_of_lt Nat.and_le_right (zb_mask_lt h)
  rw [e, zb_shr (by omega) hlt, zb_nat_msk, zb_byt, zb_nat_low _ _ _ h]
theorem zb_ones : ∀ r, r ≤ 8 → 255 / 2 ^ (8 - r) = 2 ^ r - 1 := by decide +kernel
/-- 0xFF >> (8 - r) -/
theorem zb_ff {r : Nat} (h : r ≤ 8) : nI 255 >>> (nI (8 - r) &&& 31) = nI (2 ^ r - 1) := by
  rw [zb_shr (by omega) (by decide), zb_ones r h]
theorem zb_ffs {r s : Nat} (h : r + s ≤ 8) : nI (2 ^ r - 1) <<< (nI s &&& 31) = nI ((2 ^ r - 1) * 2 ^ s) := zb_shl (by omega) (Nat.lt_trans (zb_mask_lt h) (by decide))
theorem zb_and255 (x : Int32) : x &&& nI 255 = nI (zb_byt x) := pk_and x 8 (by decide)
theorem zb_byt_int (x : Int32) : (zb_byt x : Int) = x.toInt % 256 := by
  have h := BitVec.toInt_eq_toNat_cond x.toBitVec
  have h2 : x.toInt = x.toBitVec.toInt := rfl
  have h3 := x.toBitVec.isLt
  unfold zb_byt
  rw [h2, h]
  split <;> omega
theorem zb_byt_i8 (x : Int32) : zb_byt x.toInt8.toInt32 = zb_byt x := by
  have h : (zb_byt x.toInt8.toInt32 : Int) = (zb_byt x : Int) := by
    rw [zb_byt_int, zb_byt_int, Int8.toInt_toInt32, Int32.toInt_toInt8]
    exact Int.bmod_emod
  omega
theorem zb_byt_nar (x : Int32) : zb_byt (vp_nar .byte x) = zb_byt x := zb_byt_i8 x
/-- byte j of an int, its highest first -/
def zb_in4 (w : Int32) (j : Nat) : Nat := w.toBitVec.toNat / 2 ^ (24 - 8 * j) % 256
theorem zb_byt_sh (w : Int32) {k : Nat} (hk : k < 32) (h : ∀ X : Nat, X < 2 ^ 32 → ((if 2 * X < 2 ^ 32 then (X : Int) else (X : Int) - 2 ^ 32) / ((2 ^ k : Nat) : Int) % 256) = ((X / 2 ^ k % 256 : Nat) : Int)) : zb_byt (w >>> (nI k &&& 31)) = w.toBitVec.toNat / 2 ^ k % 256 := by
  have h1 : (zb_byt (w >>> (nI k &&& 31)) : Int) = ((w.toBitVec.toNat / 2 ^ k % 256 : Nat) : Int) := by
    rw [zb_byt_int, pk_shr _ _ k (zb_sl k hk), Int.shiftRight_eq_div_pow, ← h _ w.toBitVec.isLt]
    have h2 : w.toInt = w.toBitVec.toInt := rfl
    rw [h2, BitVec.toInt_eq_toNat_cond]
    rfl
  exact Int.ofNat.inj h1
theorem zb_b0 (w : Int32) : zb_byt (vp_nar .byte (w >>> (nI 24 &&& 31)).toInt8.toInt32) = zb_in4 w 0 := by
  rw [zb_byt_nar, zb_byt_i8, zb_byt_sh w (by decide) (fun X hX => by split <;> omega)]
  rfl
theorem zb_b1 (w : Int32) : zb_byt (vp_nar .byte (w >>> (nI 16 &&& 31)).toInt8.toInt32) = zb_in4 w 1 := by
  rw [zb_byt_nar, zb_byt_i8, zb_byt_sh w (by decide) (fun X hX => by split <;> omega)]
  rfl
theorem zb_b2 (w : Int32) : zb_byt (vp_nar .byte (w >>> (nI 8 &&& 31)).toInt8.toInt32) = zb_in4 w 2 := by
  rw [zb_byt_nar, zb_byt_i8, zb_byt_sh w (by decide) (fun X hX => by split <;> omega)]
  rfl
theorem zb_b3 (w : Int32) : zb_byt (vp_nar .byte w.toInt8.toInt32) = zb_in4 w 3 := by
  rw [zb_byt_nar, zb_byt_i8]
  show w.toBitVec.toNat % 256 = w.toBitVec.toNat / 1 % 256
  rw [Nat.div_one]
/-- four bytes of a word laid into a text at a -/
theorem zb_word (f : Nat → Int32) (a : Nat) (w x0 x1 x2 x3 : Int32) (h0 : zb_byt x0 = zb_in4 w 0) (h1 : zb_byt x1 = zb_in4 w 1) (h2 : zb_byt x2 = zb_in4 w 2) (h3 : zb_byt x3 = zb_in4 w 3) : ∀ i, zb_byt (upd (upd (upd (upd f a x0) (a + 1) x1) (a + 2) x2) (a + 3) x3 i) = if a ≤ i ∧ i < a + 4 then zb_in4 w (i - a) else zb_byt (f i) := by
  intro i
  by_cases c : a ≤ i ∧ i < a + 4
  · rw [if_pos c]
    rcases (show i = a ∨ i = a + 1 ∨ i = a + 2 ∨ i = a + 3 by omega) with e | e | e | e
    · subst e
      rw [Nat.sub_self, ← h0]
      unfold upd
      rw [if_neg (by omega), if_neg (by omega), if_neg (by omega), if_pos rfl]
    · subst e
      rw [Nat.add_sub_cancel_left, ← h1]
      unfold upd
      rw [if_neg (by omega), if_neg (by omega), if_pos rfl]
    · subst e
      rw [Nat.add_sub_cancel_left, ← h2]
      unfold upd
      rw [if_neg (by omega), if_pos rfl]
    · subst e
      rw [Nat.add_sub_cancel_left, ← h3]
      unfold upd
      rw [if_pos rfl]
  · rw [if_neg c]
    unfold upd
    rw [if_neg (by omega), if_neg (by omega), if_neg (by omega), if_neg (by omega)]
/-- the j-th of four words -/
def zb_pick (a b c d : Int32) (j : Nat) : Int32 := if j = 0 then a else if j = 1 then b else if j = 2 then c else d
theorem zb_put {f f1 f2 f3 f4 : Nat → Int32} {z : Nat} {a b c d : Int32} (h1 : ∀ i, zb_byt (f1 i) = if z ≤ i ∧ i < z + 4 then zb_in4 a (i - z) else zb_byt (f i)) (h2 : ∀ i, zb_byt (f2 i) = if z + 4 ≤ i ∧ i < z + 4 + 4 then zb_in4 b (i - (z + 4)) else zb_byt (f1 i)) (h3 : ∀ i, zb_byt (f3 i) = if z + 8 ≤ i ∧ i < z + 8 + 4 then zb_in4 c (i - (z + 8)) else zb_byt (f2 i)) (h4 : ∀ i, zb_byt (f4 i) = if z + 12 ≤ i ∧ i < z + 12 + 4 then zb_in4 d (i - (z + 12)) else zb_byt (f3 i)) : ∀ i, zb_byt (f4 i) = if z ≤ i ∧ i < z + 16 then zb_in4 (zb_pick a b c d ((i - z) / 4)) ((i - z) % 4) else zb_byt (f i) := by
  intro i
  rw [h4, h3, h2, h1]
  by_cases c0 : z ≤ i ∧ i < z + 16
  · rw [if_pos c0]
    by_cases k4 : z + 12 ≤ i
    · rw [if_pos (by omega), show (i - z) / 4 = 3 by omega, show (i - z) % 4 = i - (z + 12) by omega]
      rfl
    · rw [if_neg (by omega)]
      by_cases k3 : z + 8 ≤ i
      · rw [if_pos (by omega), show (i - z) / 4 = 2 by omega, show (i - z) % 4 = i - (z + 8) by omega]
        rfl
      · rw [if_neg (by omega)]
        by_cases k2 : z + 4 ≤ i
        · rw [if_pos (by omega), show (i - z) / 4 = 1 by omega, show (i - z) % 4 = i - (z + 4) by omega]
          rfl
        · rw [if_neg (by omega), if_pos (by omega), show (i - z) / 4 = 0 by omega, show (i - z) % 4 = i - z by omega]
          rfl
  · rw [if_neg c0, if_neg (by omega), if_neg (by omega), if_neg (by omega), if_neg (by omega)]
/-! the script's words and bytes -/
def zb_cel (L : Nat) (xs : Nat → Int32) (k : Nat) : Int32 := if k < L then xs k else 0
def zb_sb (L : Nat) (xs : Nat → Int32) (i : Nat) : Nat := zb_in4 (zb_cel L xs (i / 4)) (i % 4)
theorem zb_sb_lt (L : Nat) (xs : Nat → Int32) (i : Nat) : zb_sb L xs i < 256 := Nat.mod_lt _ (by decide)
theorem zb_made {f f' : Nat → Int32} {L t : Nat} {xs : Nat → Int32} (h0 : ∀ i, i < 16 * t → zb_byt (f i) = zb_sb L xs i) (h1 : ∀ i, zb_byt (f' i) = if 16 * t ≤ i ∧ i < 16 * t + 16 then zb_in4 (zb_pick (zb_cel L xs (4 * t)) (zb_cel L xs (4 * t + 1)) (zb_cel L xs (4 * t + 2)) (zb_cel L xs (4 * t + 3)) ((i - 16 * t) / 4)) ((i - 16 * t) % 4) else zb_byt (f i)) : ∀ i, i < 16 * (t + 1) → zb_byt (f' i) = zb_sb L xs i := by
  intro i hi
  rw [h1]
  by_cases c0 : 16 * t ≤ i ∧ i < 16 * t + 16
  · rw [if_pos c0, zb_sb, show (i - 16 * t) % 4 = i % 4 by omega]
    rcases (show (i - 16 * t) / 4 = 0 ∨ (i - 16 * t) / 4 = 1 ∨ (i - 16 * t) / 4 = 2 ∨ (i - 16 * t) / 4 = 3 by omega) with e | e | e | e
    · rw [e, show i / 4 = 4 * t by omega]; rfl
    · rw [e, show i / 4 = 4 * t + 1 by omega]; rfl
    · rw [e, show i / 4 = 4 * t + 2 by omega]; rfl
    · rw [e, show i / 4 = 4 * t + 3 by omega]; rfl
  · rw [if_neg c0]
    exact h0 i (by omega)
/-- a bit of the script's text, by its word -/
theorem zb_bit_sb (L : Nat) (xs : Nat → Int32) (p : Nat) : zb_bit (zb_sb L xs) p = (zb_cel L xs (p / 32)).toBitVec.toNat / 2 ^ (31 - p % 32) % 2 := by
  rw [zb_bit, zb_sb, zb_in4, show p / 8 / 4 = p / 32 by omega]
  generalize (zb_cel L xs (p / 32)).toBitVec.toNat = C
  have h := zb_nat_low (C / 2 ^ (24 - 8 * (p / 8 % 4))) 1 (7 - p % 8) (by omega)
  rw [Nat.pow_one] at h
  rw [h, Nat.div_div_eq_div_mul, ← Nat.pow_add, show 24 - 8 * (p / 8 % 4) + (7 - p % 8) = 31 - p % 32 by omega]
/-- the law's (word >>> s) & 255 -/
theorem zb_ush255 (x : Int32) {k : Nat} (hk : k < 32) : (x.toUInt32 >>> ((nI k).toUInt32 &&& Int32.toUInt32 31)).toInt32 &&& nI 255 = nI (x.toBitVec.toNat / 2 ^ k % 256) := by
  rw [pk_and _ (m := nI 255) 8 (by decide), pk_ushr _ _ k (zb_su k hk)]
theorem zb_ush7 (x : Int32) {k : Nat} (hk : k < 32) : (x.toUInt32 >>> ((nI k).toUInt32 &&& Int32.toUInt32 31)).toInt32 &&& nI 7 = nI (x.toBitVec.toNat / 2 ^ k % 8) := by
  rw [pk_and _ (m := nI 7) 3 (by decide), pk_ushr _ _ k (zb_su k hk)]
theorem zb_ush1 (x : Int32) {k : Nat} (hk : k < 32) : (x.toUInt32 >>> ((nI k).toUInt32 &&& Int32.toUInt32 31)).toInt32 &&& nI 1 = nI (x.toBitVec.toNat / 2 ^ k % 2) := by
  rw [pk_and _ (m := nI 1) 1 (by decide), pk_ushr _ _ k (zb_su k hk)]
theorem zb_ush (x : Int32) {k : Nat} (hk : k < 32) : (x.toUInt32 >>> ((nI k).toUInt32 &&& Int32.toUInt32 31)).toInt32 = nI (x.toBitVec.toNat / 2 ^ k) := by
  apply Int32.toBitVec_inj.mp
  apply BitVec.eq_of_toNat_eq
  rw [pk_ushr _ _ k (zb_su k hk), pk_tn (Nat.lt_of_le_of_lt (Nat.div_le_self _ _) x.toBitVec.isLt)]
/-! Int64 -/
theorem zb_sl64 : ∀ n, n < 32 → (((nI n).toInt64 &&& 63).toBitVec.smod 64).toNat = n := by decide +kernel
theorem zb_tn64 {n : Nat} (h : n < 2 ^ 64) : (lN n).toBitVec.toNat = n := Nat.mod_eq_of_lt h
theorem zb_lshl {n r : Nat} (hr : r < 32) (h : n * 2 ^ r < 2 ^ 64) : lN n <<< ((nI r).toInt64 &&& 63) = lN (n * 2 ^ r) := by
  apply Int64.toBitVec_inj.mp
  apply BitVec.eq_of_toNat_eq
  have hn : n < 2 ^ 64 := Nat.lt_of_le_of_lt (Nat.le_mul_of_pos_right n (Nat.two_pow_pos r)) h
  show ((lN n).toBitVec <<< (((nI r).toInt64 &&& 63).toBitVec.smod 64).toNat).toNat = _
  rw [zb_sl64 r hr, BitVec.toNat_shiftLeft, Nat.shiftLeft_eq, zb_tn64 hn, zb_tn64 h, Nat.mod_eq_of_lt h]
theorem zb_orL (a b : Nat) : lN a ||| lN b = lN (a ||| b) := by
  apply Int64.toBitVec_inj.1
  show BitVec.ofNat 64 a ||| BitVec.ofNat 64 b = BitVec.ofNat 64 (a ||| b)
  apply BitVec.eq_of_getLsbD_eq
  intro i hi
  simp [hi]
theorem zb_lor (b : Nat) {a r : Nat} (h : a < 2 ^ r) : lN (b * 2 ^ r) ||| lN a = lN (b * 2 ^ r + a) := by
  rw [zb_orL, Nat.mul_comm, Nat.two_pow_add_eq_or_of_lt h]
theorem zb_land (x : Int64) : x &&& 4294967295 = lN (x.toBitVec.toNat % 2 ^ 32) := by
  apply Int64.toBitVec_inj.mp
  apply BitVec.eq_of_toNat_eq
  have hm : (4294967295 : Int64).toBitVec.toNat = 2 ^ 32 - 1 := by decide
  rw [Int64.toBitVec_and, BitVec.toNat_and, hm, Nat.and_two_pow_sub_one_eq_mod, zb_tn64]
  exact Nat.lt_of_lt_of_le (Nat.mod_lt _ (Nat.two_pow_pos 32)) (by decide)
theorem zb_wide {n : Nat} (h : n < 2 ^ 32) : (nI n).toInt64.toBitVec.toNat % 2 ^ 32 = n := by
  have h1 := BitVec.toInt_eq_toNat_cond (nI n).toInt64.toBitVec
  have h2 := BitVec.toInt_eq_toNat_cond (nI n).toBitVec
  have h3 : (nI n).toInt64.toInt = (nI n).toInt := Int32.toInt_toInt64 _
  have h4 : (nI n).toInt64.toInt = (nI n).toInt64.toBitVec.toInt := rfl
  have h5 : (nI n).toInt = (nI n).toBitVec.toInt := rfl
  have h6 := (nI n).toInt64.toBitVec.isLt
  rw [pk_tn h] at h2
  generalize (nI n).toInt64.toBitVec.toNat = X at h1 h6 ⊢
  rw [h4, h5, h1, h2] at h3
  split at h3 <;> split at h3 <;> omega
/-- elder's third read, made a number without sign -/
theorem zb_unsigned {n : Nat} (h : n < 2 ^ 32) : (nI n).toInt64 &&& 4294967295 = lN n := by
  rw [zb_land, zb_wide h]
end
section
/-! CONTRACTS OF BitSource: a source over n bytes g, p bits read -/
set_option maxRecDepth 100000
theorem zb_m8 {a b : Nat} (h : a = b + 8) : nI a + Int32.ofInt (-8) = nI b := by
  rw [h, ← nI_add, Int32.add_assoc, show nI 8 + Int32.ofInt (-8) = 0 by decide, Int32.add_zero]
theorem zb_min {a b r : Nat} (ha : a < 2 ^ 31) (hb : b < 2 ^ 31) (e : r = min a b) : (if nI b < nI a then nI b else nI a) = nI r := by
  by_cases h : b < a
  · rw [if_pos ((nI_ltI hb ha).mpr h)]
    exact congrArg nI (by omega)
  · rw [if_neg (fun q => h ((nI_ltI hb ha).mp q))]
    exact congrArg nI (by omega)
theorem k_cP {D : va_G} {H : Heap} {qs qb x y p : Nat} {ws : va_W} (h : va_P D vwCl ((qs, .inr (1, [.ref qb, .int (nI x), .int (nI y)])) :: ws) H) (e1 : x = p / 8) (e2 : y = p % 8) : va_P D vwCl (cS qs qb p :: ws) H := by
  subst e1
  subst e2
  exact h
theorem k_cD {A : Nat → Prop} {qs qb x y p : Nat} {ws : va_W} (h : va_D A ((qs, .inr (1, [.ref qb, .int (nI x), .int (nI y)])) :: ws)) (e1 : x = p / 8) (e2 : y = p % 8) : va_D A (cS qs qb p :: ws) := by
  subst e1
  subst e2
  exact h
theorem zb_pow {T : Nat → Nat} {p j r : Nat} (h : j + r ≤ 32) : zb_num T p j * 2 ^ r < 2 ^ 32 := by
  have h1 : 2 ^ j * 2 ^ r ≤ 2 ^ 32 := by
    rw [← Nat.pow_add]
    exact Nat.pow_le_pow_right (by decide) h
  exact Nat.lt_of_lt_of_le ((Nat.mul_lt_mul_right (Nat.two_pow_pos r)).mpr (zb_num_lt T p j)) h1
set_option maxHeartbeats 4000000 in
set_option maxRecDepth 100000 in
/-- BitSource(bytes): nothing read -/
theorem m_sinit (l : Launch) (D : va_G) (dB : ClassId) (sz : Nat) (h0 qb : Nat) : Met l yX2_init (ws_ yX2_init cX2_init 2 none) ({ frames := 1, cells := 0, slots := 0, locals := 24 }) (k_Pc D [(dB, .byte)] [.ref h0, .ref qb] [(h0, .inr (1, [.null, .int (nI 0), .int (nI 0)]))] sz) (va_Qv (fun (_ : Unit) => True) (k_B D [(dB, .byte)] (va_A [(h0, .inr (1, [.null, .int (nI 0), .int (nI 0)]))] sz) (fun (_ : Unit) => [cS h0 qb 0])) (va_A [(h0, .inr (1, [.null, .int (nI 0), .int (nI 0)]))] sz)) 0 0 (va_A [(h0, .inr (1, [.null, .int (nI 0), .int (nI 0)]))] sz) := by
  refine Met.ofW (cc := cX2_init) (maxL := 2) (ret := none) (by decide) rfl ?_
  intro pg e s m args below meth c s₁ B hml hv
  obtain ⟨rfl, hsz, hP, hK, hD0⟩ := hv
  have hx := B.exec
  have hb := B.bytes
  have hr := B.returns
  have hts := atoms_spec (ws := (ws_ yX2_init cX2_init 2 none)) B.pre
  have hts : ∀ w ∈ lw_all, w.before _ s = true := fun w h => hts w (List.mem_cons_of_mem _ h)
  have hown : s.vm.findClass RX2 = some m.cls := findClass_of_methodNamed B.named
  have hlocks := B.notSynchronized
  have hin : meth.name = "<init>" := (name_of_methodNamed B.named B.method).1
  subst hsz
  have hD := hD0.self (sz := s.heap.size)
  generalize hAe : va_A [(h0, .inr (1, [.null, .int (nI 0), .int (nI 0)]))] s.heap.size = A at hD ⊢
  have hA : ∀ q : Nat, s.heap.size ≤ q → A q := fun q h => by rw [← hAe]; exact Or.inr h
  have hS : va_S A s.heap s.heap [] := va_S.rf
  have hl := lv_entry ([.ref h0, .ref qb]) (n := 2) (Nat.le_of_ble_eq_true rfl)
  rw [lg_entry_eq]
  generalize (lg_sl ([.ref h0, .ref qb]) ++ List.replicate (2 - (lg_sl ([.ref h0, .ref qb])).length) Slot.unset).toArray = ls at hl ⊢
  have hl : lv_has ls 2 [(0, .ref h0), (1, .ref qb)] := hl
  refine lv_aload_n hx hb dX2_init_0 rfl (lv_at hl 0 rfl) ?_
  refine W.objInit hx hb hown (hts _ q30) (hts _ q23) (hts _ q24) rfl (by rw [hml]; exact hl.1) rfl dX2_init_1 (Nat.le_of_ble_eq_true rfl) (Nat.le_of_ble_eq_true rfl) ?_
  refine W.eq (g2 := F0 m 4 ls []) rfl ?_
  refine lv_aload_n hx hb dX2_init_4 rfl (lv_at hl 0 rfl) ?_
  refine lv_aload_n hx hb dX2_init_5 rfl (lv_at hl 1 rfl) ?_
  refine va_putF (D := D) (ci := 1) (v := .ref qb) (ty := .array .byte) (C := RX2) (T := TX2) (N := 3) hx hb hts in_X2 tyX2 tyX2_ok nmX2 hown hK hP hD hS 0 rfl rfl 0 (by decide) (hts _ q31) (fun _ h9 => h9) rfl hin rfl (by decide +kernel) rfl rfl (Nat.le_of_ble_eq_true rfl) dX2_init_6 (fun H locs hP hD hS => ?_)
  have hP : va_P D vwCl [(h0, .inr (1, [.ref qb, .int (nI 0), .int (nI 0)]))] H := hP
  have hD : va_D A [(h0, .inr (1, [.ref qb, .int (nI 0), .int (nI 0)]))] := hD
  have hP : va_P D vwCl [cS h0 qb 0] H := hP
  have hD : va_D A [cS h0 qb 0] := hD
  refine W.widen (k := 0) (n := 0) (Nat.le_of_ble_eq_true rfl) (Nat.le_of_ble_eq_true rfl) ?_
  exact W.vret hx hb hr (fun t ht hW => ⟨⟨(), rfl, trivial, by rw [ht]; exact hP, va_K.moved hW.alike hK, hD⟩, hS.F ht⟩) hS.2.2 dX2_init_9

set_option maxHeartbeats 4000000 in
set_option maxRecDepth 100000 in
/-- available(): the bits left -/
theorem m_avail (l : Launch) (D : va_G) (dB : ClassId) (sz : Nat) (h0 qb p n : Nat) (g : Nat → Int32) (hn : n ≤ 4096) (hp : p ≤ 8 * n) : Met l yX2_available (ws_ yX2_available cX2_available 1 (some .int)) ({ frames := 0, cells := 0, slots := 0, locals := 0 }) (k_Pc D [(dB, .byte)] [.ref h0] [cS h0 qb p, cB qb dB n g] sz) (va_Qi (fun (r : Int32) (_ : Unit) => r = nI (8 * n - p)) (k_B D [(dB, .byte)] (va_A [cS h0 qb p, cB qb dB n g] sz) (fun (_ : Unit) => [cS h0 qb p, cB qb dB n g])) (va_A [cS h0 qb p, cB qb dB n g] sz)) 0 0 (va_A [cS h0 qb p, cB qb dB n g] sz) := by
  refine Met.ofW (cc := cX2_available) (maxL := 1) (ret := (some .int)) (by decide) rfl ?_
  intro pg e s m args below meth c s₁ B hml hv
  obtain ⟨rfl, hsz, hP, hK, hD0⟩ := hv
  have hx := B.exec
  have hb := B.bytes
  have hr := B.returns
  have hts := atoms_spec (ws := (ws_ yX2_available cX2_available 1 (some .int))) B.pre
  have hts : ∀ w ∈ lw_all, w.before _ s = true := fun w h => hts w (List.mem_cons_of_mem _ h)
  have hown : s.vm.findClass RX2 = some m.cls := findClass_of_methodNamed B.named
  have hlocks := B.notSynchronized
  subst hsz
  have hD := hD0.self (sz := s.heap.size)
  generalize hAe : va_A [cS h0 qb p, cB qb dB n g] s.heap.size = A at hD ⊢
  have hA : ∀ q : Nat, s.heap.size ≤ q → A q := fun q h => by rw [← hAe]; exact Or.inr h
  have hS : va_S A s.heap s.heap [] := va_S.rf
  have hl := lv_entry ([.ref h0]) (n := 1) (Nat.le_of_ble_eq_true rfl)
  rw [lg_entry_eq]
  generalize (lg_sl ([.ref h0]) ++ List.replicate (1 - (lg_sl ([.ref h0])).length) Slot.unset).toArray = ls at hl ⊢
  have hl : lv_has ls 1 [(0, .ref h0)] := hl
  refine lv_bipush (v := nI 8) hx hb dX2_available_0 (by decide) ?_
  refine lv_aload_n hx hb dX2_available_2 rfl (lv_at hl 0 rfl) ?_
  refine va_get (D := D) (ci := 1) (v := .ref qb) (C := RX2) (T := TX2) (N := 3) hx hb hts in_X2 hown hK hP 0 rfl rfl 0 (by decide) (hts _ q31) (fun _ h9 => h9) rfl dX2_available_3 ?_
  refine va_alen (v := nI n) hx hb hK hP 1 0 rfl rfl rfl dX2_available_6 ?_
  refine lv_aload_n hx hb dX2_available_7 rfl (lv_at hl 0 rfl) ?_
  refine va_get (D := D) (ci := 1) (v := .int (nI (p / 8))) (C := RX2) (T := TX2) (N := 3) hx hb hts in_X2 hown hK hP 0 rfl rfl 1 (by decide) (hts _ q32) (fun _ h9 => h9) rfl dX2_available_8 ?_
  refine lv_isub hx hb dX2_available_11 ?_
  refine k_is (y := (nI (n - (p / 8)))) (pk_sub (by omega)) ?_
  refine lv_imul hx hb dX2_available_12 ?_
  refine k_is (y := (nI (8 * (n - (p / 8))))) (pk_mul _ _) ?_
  refine lv_aload_n hx hb dX2_available_13 rfl (lv_at hl 0 rfl) ?_
  refine va_get (D := D) (ci := 1) (v := .int (nI (p % 8))) (C := RX2) (T := TX2) (N := 3) hx hb hts in_X2 hown hK hP 0 rfl rfl 2 (by decide) (hts _ q33) (fun _ h9 => h9) rfl dX2_available_14 ?_
  refine lv_isub hx hb dX2_available_17 ?_
  refine k_is (y := (nI ((8 * (n - (p / 8))) - (p % 8)))) (pk_sub (by omega)) ?_
  refine k_is (y := (nI (8 * n - p))) (congrArg nI (by omega)) ?_
  refine W.widen (k := 0) (n := 0) (Nat.le_of_ble_eq_true rfl) (Nat.le_of_ble_eq_true rfl) ?_
  exact W.iret (v := (nI (8 * n - p))) hx hb hr (fun t ht hW => ⟨⟨(nI (8 * n - p)), (), rfl, rfl, by rw [ht]; exact hP, va_K.moved hW.alike hK, hD⟩, hS.F ht⟩) hS.2.2 dX2_available_18

set_option maxHeartbeats 4000000 in
set_option maxRecDepth 100000 in
/-- getByteOffset -/
theorem m_boff (l : Launch) (D : va_G) (dB : ClassId) (sz : Nat) (h0 qb p : Nat) : Met l yX2_getByteOffset (ws_ yX2_getByteOffset cX2_getByteOffset 1 (some .int)) ({ frames := 0, cells := 0, slots := 0, locals := 0 }) (k_Pc D [(dB, .byte)] [.ref h0] [cS h0 qb p] sz) (va_Qi (fun (r : Int32) (_ : Unit) => r = nI (p / 8)) (k_B D [(dB, .byte)] (va_A [cS h0 qb p] sz) (fun (_ : Unit) => [cS h0 qb p])) (va_A [cS h0 qb p] sz)) 0 0 (va_A [cS h0 qb p] sz) := by
  refine Met.ofW (cc := cX2_getByteOffset) (maxL := 1) (ret := (some .int)) (by decide) rfl ?_
  intro pg e s m args below meth c s₁ B hml hv
  obtain ⟨rfl, hsz, hP, hK, hD0⟩ := hv
  have hx := B.exec
  have hb := B.bytes
  have hr := B.returns
  have hts := atoms_spec (ws := (ws_ yX2_getByteOffset cX2_getByteOffset 1 (some .int))) B.pre
  have hts : ∀ w ∈ lw_all, w.before _ s = true := fun w h => hts w (List.mem_cons_of_mem _ h)
  have hown : s.vm.findClass RX2 = some m.cls := findClass_of_methodNamed B.named
  have hlocks := B.notSynchronized
  subst hsz
  have hD := hD0.self (sz := s.heap.size)
  generalize hAe : va_A [cS h0 qb p] s.heap.size = A at hD ⊢
  have hA : ∀ q : Nat, s.heap.size ≤ q → A q := fun q h => by rw [← hAe]; exact Or.inr h
  have hS : va_S A s.heap s.heap [] := va_S.rf
  have hl := lv_entry ([.ref h0]) (n := 1) (Nat.le_of_ble_eq_true rfl)
  rw [lg_entry_eq]
  generalize (lg_sl ([.ref h0]) ++ List.replicate (1 - (lg_sl ([.ref h0])).length) Slot.unset).toArray = ls at hl ⊢
  have hl : lv_has ls 1 [(0, .ref h0)] := hl
  refine lv_aload_n hx hb dX2_getByteOffset_0 rfl (lv_at hl 0 rfl) ?_
  refine va_get (D := D) (ci := 1) (v := .int (nI (p / 8))) (C := RX2) (T := TX2) (N := 3) hx hb hts in_X2 hown hK hP 0 rfl rfl 1 (by decide) (hts _ q32) (fun _ h9 => h9) rfl dX2_getByteOffset_1 ?_
  refine W.widen (k := 0) (n := 0) (Nat.le_of_ble_eq_true rfl) (Nat.le_of_ble_eq_true rfl) ?_
  exact W.iret (v := (nI (p / 8))) hx hb hr (fun t ht hW => ⟨⟨(nI (p / 8)), (), rfl, rfl, by rw [ht]; exact hP, va_K.moved hW.alike hK, hD⟩, hS.F ht⟩) hS.2.2 dX2_getByteOffset_4

set_option maxHeartbeats 4000000 in
set_option maxRecDepth 100000 in
/-- getBitOffset -/
theorem m_bit (l : Launch) (D : va_G) (dB : ClassId) (sz : Nat) (h0 qb p : Nat) : Met l yX2_getBitOffset (ws_ yX2_getBitOffset cX2_getBitOffset 1 (some .int)) ({ frames := 0, cells := 0, slots := 0, locals := 0 }) (k_Pc D [(dB, .byte)] [.ref h0] [cS h0 qb p] sz) (va_Qi (fun (r : Int32) (_ : Unit) => r = nI (p % 8)) (k_B D [(dB, .byte)] (va_A [cS h0 qb p] sz) (fun (_ : Unit) => [cS h0 qb p])) (va_A [cS h0 qb p] sz)) 0 0 (va_A [cS h0 qb p] sz) := by
  refine Met.ofW (cc := cX2_getBitOffset) (maxL := 1) (ret := (some .int)) (by decide) rfl ?_
  intro pg e s m args below meth c s₁ B hml hv
  obtain ⟨rfl, hsz, hP, hK, hD0⟩ := hv
  have hx := B.exec
  have hb := B.bytes
  have hr := B.returns
  have hts := atoms_spec (ws := (ws_ yX2_getBitOffset cX2_getBitOffset 1 (some .int))) B.pre
  have hts : ∀ w ∈ lw_all, w.before _ s = true := fun w h => hts w (List.mem_cons_of_mem _ h)
  have hown : s.vm.findClass RX2 = some m.cls := findClass_of_methodNamed B.named
  have hlocks := B.notSynchronized
  subst hsz
  have hD := hD0.self (sz := s.heap.size)
  generalize hAe : va_A [cS h0 qb p] s.heap.size = A at hD ⊢
  have hA : ∀ q : Nat, s.heap.size ≤ q → A q := fun q h => by rw [← hAe]; exact Or.inr h
  have hS : va_S A s.heap s.heap [] := va_S.rf
  have hl := lv_entry ([.ref h0]) (n := 1) (Nat.le_of_ble_eq_true rfl)
  rw [lg_entry_eq]
  generalize (lg_sl ([.ref h0]) ++ List.replicate (1 - (lg_sl ([.ref h0])).length) Slot.unset).toArray = ls at hl ⊢
  have hl : lv_has ls 1 [(0, .ref h0)] := hl
  refine lv_aload_n hx hb dX2_getBitOffset_0 rfl (lv_at hl 0 rfl) ?_
  refine va_get (D := D) (ci := 1) (v := .int (nI (p % 8))) (C := RX2) (T := TX2) (N := 3) hx hb hts in_X2 hown hK hP 0 rfl rfl 2 (by decide) (hts _ q33) (fun _ h9 => h9) rfl dX2_getBitOffset_1 ?_
  refine W.widen (k := 0) (n := 0) (Nat.le_of_ble_eq_true rfl) (Nat.le_of_ble_eq_true rfl) ?_
  exact W.iret (v := (nI (p % 8))) hx hb hr (fun t ht hW => ⟨⟨(nI (p % 8)), (), rfl, rfl, by rw [ht]; exact hP, va_K.moved hW.alike hK, hD⟩, hS.F ht⟩) hS.2.2 dX2_getBitOffset_4

set_option maxHeartbeats 4000000 in
set_option maxRecDepth 100000 in
/-- readBits(k): the number that the next k bits make -/
theorem m_read (l : Launch) (D : va_G) (dB : ClassId) (sz : Nat) (h0 qb p n : Nat) (g : Nat → Int32) (k : Nat) (hn : n ≤ 4096) (hk : 1 ≤ k) (hk2 : k ≤ 32) (hp : p + k ≤ 8 * n) : Met l yX2_readBits (ws_ yX2_readBits cX2_readBits 7 (some .int)) ({ frames := 1, cells := 0, slots := 0, locals := 24 }) (k_Pc D [(dB, .byte)] [.ref h0, .int (nI k)] [cS h0 qb p, cB qb dB n g] sz) (va_Qi (fun (r : Int32) (_ : Unit) => r = nI (zb_num (fun i => zb_byt (g i)) p k)) (k_B D [(dB, .byte)] (va_A [cS h0 qb p, cB qb dB n g] sz) (fun (_ : Unit) => [cS h0 qb (p + k), cB qb dB n g])) (va_A [cS h0 qb p, cB qb dB n g] sz)) 0 0 (va_A [cS h0 qb p, cB qb dB n g] sz) := by
  refine Met.ofW (cc := cX2_readBits) (maxL := 7) (ret := (some .int)) (by decide) rfl ?_
  intro pg e s m args below meth c s₁ B hml hv
  obtain ⟨rfl, hsz, hP, hK, hD0⟩ := hv
  have hx := B.exec
  have hb := B.bytes
  have hr := B.returns
  have hts := atoms_spec (ws := (ws_ yX2_readBits cX2_readBits 7 (some .int))) B.pre
  have hts : ∀ w ∈ lw_all, w.before _ s = true := fun w h => hts w (List.mem_cons_of_mem _ h)
  have hown : s.vm.findClass RX2 = some m.cls := findClass_of_methodNamed B.named
  have hlocks := B.notSynchronized
  subst hsz
  have hD := hD0.self (sz := s.heap.size)
  generalize hAe : va_A [cS h0 qb p, cB qb dB n g] s.heap.size = A at hD ⊢
  have hA : ∀ q : Nat, s.heap.size ≤ q → A q := fun q h => by rw [← hAe]; exact Or.inr h
  have hS : va_S A s.heap s.heap [] := va_S.rf
  have hl := lv_entry ([.ref h0, .int (nI k)]) (n := 7) (Nat.le_of_ble_eq_true rfl)
  rw [lg_entry_eq]
  generalize (lg_sl ([.ref h0, .int (nI k)]) ++ List.replicate (7 - (lg_sl ([.ref h0, .int (nI k)])).length) Slot.unset).toArray = ls at hl ⊢
  have hl : lv_has ls 7 [(0, .ref h0), (1, .int (nI k))] := hl
  have hexit : ∀ (H : Heap) (locs : List Loc) (ls : Array Slot), va_P D vwCl [cS h0 qb (p + k), cB qb dB n g] H → va_D A [cS h0 qb (p + k), cB qb dB n g] → va_S A s.heap H locs → lv_has ls 7 [(2, .int (nI (zb_num (fun i => zb_byt (g i)) p k)))] → W pg l e (headSpec (ws_ yX2_readBits cX2_readBits 7 (some .int)) ({ frames := 1, cells := 0, slots := 0, locals := 24 })).room s m ([.ref h0, .int (nI k)] : List Value).toArray below meth c H locs 0 0 (MQ below (va_Qi (fun (r : Int32) (_ : Unit) => r = nI (zb_num (fun i => zb_byt (g i)) p k)) (k_B D [(dB, .byte)] A (fun (_ : Unit) => [cS h0 qb (p + k), cB qb dB n g])) A) ([.ref h0, .int (nI k)] : List Value).toArray s 0 0 A) (F0 m 221 ls []) := by
    intro H locs ls hP hD hS hl
    refine lv_iload_n hx hb dX2_readBits_221 rfl (lv_at hl 0 rfl) ?_
    refine W.widen (k := 0) (n := 0) (Nat.le_of_ble_eq_true rfl) (Nat.le_of_ble_eq_true rfl) ?_
    exact W.iret (v := (nI (zb_num (fun i => zb_byt (g i)) p k))) hx hb hr (fun t ht hW => ⟨⟨(nI (zb_num (fun i => zb_byt (g i)) p k)), (), rfl, rfl, by rw [ht]; exact hP, va_K.moved hW.alike hK, hD⟩, hS.F ht⟩) hS.2.2 dX2_readBits_222
  have htail : ∀ (j : Nat), j ≤ k → k - j < 8 → (k - j = 0 ∨ (p + j) % 8 = 0) → ∀ (H : Heap) (locs : List Loc) (ls : Array Slot), va_P D vwCl [cS h0 qb (p + j), cB qb dB n g] H → va_D A [cS h0 qb (p + j), cB qb dB n g] → va_S A s.heap H locs → lv_has ls 7 [(1, .int (nI (k - j))), (2, .int (nI (zb_num (fun i => zb_byt (g i)) p j))), (0, .ref h0)] → W pg l e (headSpec (ws_ yX2_readBits cX2_readBits 7 (some .int)) ({ frames := 1, cells := 0, slots := 0, locals := 24 })).room s m ([.ref h0, .int (nI k)] : List Value).toArray below meth c H locs 0 0 (MQ below (va_Qi (fun (r : Int32) (_ : Unit) => r = nI (zb_num (fun i => zb_byt (g i)) p k)) (k_B D [(dB, .byte)] A (fun (_ : Unit) => [cS h0 qb (p + k), cB qb dB n g])) A) ([.ref h0, .int (nI k)] : List Value).toArray s 0 0 A) (F0 m 174 ls []) := by
    intro j hj h8 hal H locs ls hP hD hS hl
    refine lv_iload_n hx hb dX2_readBits_174 rfl (lv_at hl 0 rfl) ?_
    refine k_le0 (tgt := 221) hx hb dX2_readBits_175 (by decide) (by omega) (fun ck => ?_) (fun ck => ?_)
    · have ej : j = k := by omega
      rw [ej] at hP hD hl
      exact hexit H locs ls hP hD hS (lv_sub hl [1] rfl)
    · have hal : (p + j) % 8 = 0 := by omega
      obtain ⟨r, er⟩ : ∃ r, r = k - j := ⟨_, rfl⟩
      have hr1 : r < 8 := by omega
      have hr2 : j + r = k := by omega
      rw [← er] at hl
      refine lv_bipush (v := nI 8) hx hb dX2_readBits_178 (by decide) ?_
      refine lv_iload_n hx hb dX2_readBits_180 rfl (lv_at hl 0 rfl) ?_
      refine lv_isub hx hb dX2_readBits_181 ?_
      refine k_is (y := (nI (8 - r))) (pk_sub (by omega)) ?_
      refine lv_istore_n (lv' := [(3, .int (nI (8 - r))), (1, .int (nI r)), (2, .int (nI (zb_num (fun i => zb_byt (g i)) p j))), (0, .ref h0)]) hx hb dX2_readBits_182 rfl hl (by decide) rfl (fun ls hl => ?_)
      refine lv_sipush (v := nI 255) hx hb dX2_readBits_183 (by decide) ?_
      refine lv_iload_n hx hb dX2_readBits_186 rfl (lv_at hl 0 rfl) ?_
      refine lv_ishr hx hb dX2_readBits_187 ?_
      refine k_is (y := (nI (2 ^ r - 1))) (zb_ff (by omega)) ?_
      refine lv_iload_n hx hb dX2_readBits_188 rfl (lv_at hl 0 rfl) ?_
      refine lv_ishl hx hb dX2_readBits_189 ?_
      refine k_is (y := (nI ((2 ^ r - 1) * 2 ^ (8 - r)))) (zb_ffs (by omega)) ?_
      refine lv_istore (lv' := [(4, .int (nI ((2 ^ r - 1) * 2 ^ (8 - r)))), (3, .int (nI (8 - r))), (1, .int (nI r)), (2, .int (nI (zb_num (fun i => zb_byt (g i)) p j))), (0, .ref h0)]) hx hb dX2_readBits_190 hl (by decide) rfl (fun ls hl => ?_)
      refine lv_iload_n hx hb dX2_readBits_192 rfl (lv_at hl 3 rfl) ?_
      refine lv_iload_n hx hb dX2_readBits_193 rfl (lv_at hl 2 rfl) ?_
      refine lv_ishl hx hb dX2_readBits_194 ?_
      refine k_is (y := (nI ((zb_num (fun i => zb_byt (g i)) p j) * 2 ^ r))) (zb_shl (by omega) (zb_pow (by omega))) ?_
      refine lv_aload_n hx hb dX2_readBits_195 rfl (lv_at hl 4 rfl) ?_
      refine va_get (D := D) (ci := 1) (v := .ref qb) (C := RX2) (T := TX2) (N := 3) hx hb hts in_X2 hown hK hP 0 rfl rfl 0 (by decide) (hts _ q31) (fun _ h9 => h9) rfl dX2_readBits_196 ?_
      refine lv_aload_n hx hb dX2_readBits_199 rfl (lv_at hl 4 rfl) ?_
      refine va_get (D := D) (ci := 1) (v := .int (nI ((p + j) / 8))) (C := RX2) (T := TX2) (N := 3) hx hb hts in_X2 hown hK hP 0 rfl rfl 1 (by decide) (hts _ q32) (fun _ h9 => h9) rfl dX2_readBits_200 ?_
      refine va_bald hx hb hK hP 1 0 rfl rfl (vp_in_nI (by omega) (by omega)) dX2_readBits_203 ?_
      refine k_is (y := (g ((p + j) / 8))) (congrArg g (nI_clamp (by omega))) ?_
      refine lv_iload hx hb dX2_readBits_204 (lv_at hl 0 rfl) ?_
      refine lv_iand hx hb dX2_readBits_206 ?_
      refine lv_iload_n hx hb dX2_readBits_207 rfl (lv_at hl 1 rfl) ?_
      refine lv_ishr hx hb dX2_readBits_208 ?_
      refine k_is (y := (nI (zb_byt (g ((p + j) / 8)) / 2 ^ (8 - r) % 2 ^ r))) (zb_msk _ (by omega)) ?_
      refine lv_ior hx hb dX2_readBits_209 ?_
      have hnum : zb_num (fun i => zb_byt (g i)) p k = zb_num (fun i => zb_byt (g i)) p j * 2 ^ r + zb_byt (g ((p + j) / 8)) / 2 ^ (8 - r) % 2 ^ r := by
        rw [← hr2, zb_part _ p j r (by omega), hal, Nat.sub_zero]
      refine k_is (y := (nI (zb_num (fun i => zb_byt (g i)) p k))) ((zb_or _ (Nat.mod_lt _ (Nat.two_pow_pos r))).trans (congrArg nI hnum.symm)) ?_
      refine lv_istore_n (lv' := [(2, .int (nI (zb_num (fun i => zb_byt (g i)) p k))), (4, .int (nI ((2 ^ r - 1) * 2 ^ (8 - r)))), (3, .int (nI (8 - r))), (1, .int (nI r)), (0, .ref h0)]) hx hb dX2_readBits_210 rfl hl (by decide) rfl (fun ls hl => ?_)
      refine lv_aload_n hx hb dX2_readBits_211 rfl (lv_at hl 4 rfl) ?_
      refine lv_dup hx hb dX2_readBits_212 rfl ?_
      refine va_get (D := D) (ci := 1) (v := .int (nI ((p + j) % 8))) (C := RX2) (T := TX2) (N := 3) hx hb hts in_X2 hown hK hP 0 rfl rfl 2 (by decide) (hts _ q33) (fun _ h9 => h9) rfl dX2_readBits_213 ?_
      refine lv_iload_n hx hb dX2_readBits_216 rfl (lv_at hl 3 rfl) ?_
      refine lv_iadd hx hb dX2_readBits_217 ?_
      refine k_is (y := (nI (((p + j) % 8) + r))) (nI_add _ _) ?_
      refine va_put (D := D) (ci := 1) (v := .int (nI (((p + j) % 8) + r))) (ty := .int) (C := RX2) (T := TX2) (N := 3) hx hb hts in_X2 tyX2 tyX2_ok nmX2 hown hK hP hD hS 0 rfl rfl 2 (by decide) (hts _ q33) (fun _ h9 => h9) rfl (by decide +kernel) rfl rfl (Nat.le_of_ble_eq_true rfl) dX2_readBits_218 (fun H locs hP hD hS => ?_)
      have hP : va_P D vwCl [(h0, .inr (1, [.ref qb, .int (nI ((p + j) / 8)), .int (nI (((p + j) % 8) + r))])), cB qb dB n g] H := hP
      have hD : va_D A [(h0, .inr (1, [.ref qb, .int (nI ((p + j) / 8)), .int (nI (((p + j) % 8) + r))])), cB qb dB n g] := hD
      have hP := k_cP (p := p + k) hP (by omega) (by omega)
      have hD := k_cD (p := p + k) hD (by omega) (by omega)
      exact hexit H locs ls hP hD hS (lv_sub hl [0] rfl)
  have hloop : ∀ (t j : Nat), k - j ≤ t → j ≤ k → (k - j = 0 ∨ (p + j) % 8 = 0) → ∀ (H : Heap) (locs : List Loc) (ls : Array Slot), va_P D vwCl [cS h0 qb (p + j), cB qb dB n g] H → va_D A [cS h0 qb (p + j), cB qb dB n g] → va_S A s.heap H locs → lv_has ls 7 [(1, .int (nI (k - j))), (2, .int (nI (zb_num (fun i => zb_byt (g i)) p j))), (0, .ref h0)] → W pg l e (headSpec (ws_ yX2_readBits cX2_readBits 7 (some .int)) ({ frames := 1, cells := 0, slots := 0, locals := 24 })).room s m ([.ref h0, .int (nI k)] : List Value).toArray below meth c H locs 0 0 (MQ below (va_Qi (fun (r : Int32) (_ : Unit) => r = nI (zb_num (fun i => zb_byt (g i)) p k)) (k_B D [(dB, .byte)] A (fun (_ : Unit) => [cS h0 qb (p + k), cB qb dB n g])) A) ([.ref h0, .int (nI k)] : List Value).toArray s 0 0 A) (F0 m 133 ls []) := by
    intro t
    induction t with
    | zero =>
      intro j ht hj hal H locs ls hP hD hS hl
      refine lv_iload_n hx hb dX2_readBits_133 rfl (lv_at hl 0 rfl) ?_
      refine lv_bipush (v := nI 8) hx hb dX2_readBits_134 (by decide) ?_
      refine k_lt (tgt := 174) hx hb dX2_readBits_136 (by decide) (by omega) (by omega) (fun c_1 => ?_) (fun c_1 => absurd c_1 (by omega))
      exact htail j hj (by omega) hal H locs ls hP hD hS hl
    | succ t ih =>
      intro j ht hj hal H locs ls hP hD hS hl
      refine lv_iload_n hx hb dX2_readBits_133 rfl (lv_at hl 0 rfl) ?_
      refine lv_bipush (v := nI 8) hx hb dX2_readBits_134 (by decide) ?_
      refine k_lt (tgt := 174) hx hb dX2_readBits_136 (by decide) (by omega) (by omega) (fun cl => ?_) (fun cl => ?_)
      · exact htail j hj cl hal H locs ls hP hD hS hl
      · have hal : (p + j) % 8 = 0 := by omega
        refine lv_iload_n hx hb dX2_readBits_139 rfl (lv_at hl 1 rfl) ?_
        refine lv_bipush (v := nI 8) hx hb dX2_readBits_140 (by decide) ?_
        refine lv_ishl hx hb dX2_readBits_142 ?_
        refine k_is (y := (nI ((zb_num (fun i => zb_byt (g i)) p j) * 2 ^ 8))) (zb_shl (by omega) (zb_pow (by omega))) ?_
        refine lv_aload_n hx hb dX2_readBits_143 rfl (lv_at hl 2 rfl) ?_
        refine va_get (D := D) (ci := 1) (v := .ref qb) (C := RX2) (T := TX2) (N := 3) hx hb hts in_X2 hown hK hP 0 rfl rfl 0 (by decide) (hts _ q31) (fun _ h9 => h9) rfl dX2_readBits_144 ?_
        refine lv_aload_n hx hb dX2_readBits_147 rfl (lv_at hl 2 rfl) ?_
        refine va_get (D := D) (ci := 1) (v := .int (nI ((p + j) / 8))) (C := RX2) (T := TX2) (N := 3) hx hb hts in_X2 hown hK hP 0 rfl rfl 1 (by decide) (hts _ q32) (fun _ h9 => h9) rfl dX2_readBits_148 ?_
        refine va_bald hx hb hK hP 1 0 rfl rfl (vp_in_nI (by omega) (by omega)) dX2_readBits_151 ?_
        refine k_is (y := (g ((p + j) / 8))) (congrArg g (nI_clamp (by omega))) ?_
        refine lv_sipush (v := nI 255) hx hb dX2_readBits_152 (by decide) ?_
        refine lv_iand hx hb dX2_readBits_155 ?_
        refine k_is (y := (nI (zb_byt (g ((p + j) / 8))))) (zb_and255 _) ?_
        refine lv_ior hx hb dX2_readBits_156 ?_
        refine k_is (y := (nI (zb_num (fun i => zb_byt (g i)) p (j + 8)))) ((zb_or _ (zb_byt_lt _)).trans (congrArg nI (zb_step8 (fun i => zb_byt (g i)) p j hal (zb_byt_lt _)).symm)) ?_
        refine lv_istore_n (lv' := [(2, .int (nI (zb_num (fun i => zb_byt (g i)) p (j + 8)))), (1, .int (nI (k - j))), (0, .ref h0)]) hx hb dX2_readBits_157 rfl hl (by decide) rfl (fun ls hl => ?_)
        refine lv_aload_n hx hb dX2_readBits_158 rfl (lv_at hl 2 rfl) ?_
        refine lv_dup hx hb dX2_readBits_159 rfl ?_
        refine va_get (D := D) (ci := 1) (v := .int (nI ((p + j) / 8))) (C := RX2) (T := TX2) (N := 3) hx hb hts in_X2 hown hK hP 0 rfl rfl 1 (by decide) (hts _ q32) (fun _ h9 => h9) rfl dX2_readBits_160 ?_
        refine lv_iconst (v := nI 1) hx hb dX2_readBits_163 (by decide) ?_
        refine lv_iadd hx hb dX2_readBits_164 ?_
        refine k_is (y := (nI (((p + j) / 8) + 1))) (nI_add _ _) ?_
        refine va_put (D := D) (ci := 1) (v := .int (nI (((p + j) / 8) + 1))) (ty := .int) (C := RX2) (T := TX2) (N := 3) hx hb hts in_X2 tyX2 tyX2_ok nmX2 hown hK hP hD hS 0 rfl rfl 1 (by decide) (hts _ q32) (fun _ h9 => h9) rfl (by decide +kernel) rfl rfl (Nat.le_of_ble_eq_true rfl) dX2_readBits_165 (fun H locs hP hD hS => ?_)
        have hP : va_P D vwCl [(h0, .inr (1, [.ref qb, .int (nI (((p + j) / 8) + 1)), .int (nI ((p + j) % 8))])), cB qb dB n g] H := hP
        have hD : va_D A [(h0, .inr (1, [.ref qb, .int (nI (((p + j) / 8) + 1)), .int (nI ((p + j) % 8))])), cB qb dB n g] := hD
        have hP := k_cP (p := p + (j + 8)) hP (by omega) (by omega)
        have hD := k_cD (p := p + (j + 8)) hD (by omega) (by omega)
        refine lv_iinc (v := nI (k - (j + 8))) (lv' := [(1, .int (nI (k - (j + 8)))), (2, .int (nI (zb_num (fun i => zb_byt (g i)) p (j + 8)))), (0, .ref h0)]) hx hb dX2_readBits_168 hl (k := 1) rfl (zb_m8 (by omega)) (by decide) rfl (fun ls hl => ?_)
        refine lv_goto (tgt := 133) hx hb dX2_readBits_171 (by decide) ?_
        exact ih (j + 8) (by omega) (by omega) (by omega) H locs ls hP hD hS (lv_sub hl [0, 1, 2] rfl)
  have h129 : ∀ (j : Nat), j ≤ k → (k - j = 0 ∨ (p + j) % 8 = 0) → ∀ (H : Heap) (locs : List Loc) (ls : Array Slot), va_P D vwCl [cS h0 qb (p + j), cB qb dB n g] H → va_D A [cS h0 qb (p + j), cB qb dB n g] → va_S A s.heap H locs → lv_has ls 7 [(1, .int (nI (k - j))), (2, .int (nI (zb_num (fun i => zb_byt (g i)) p j))), (0, .ref h0)] → W pg l e (headSpec (ws_ yX2_readBits cX2_readBits 7 (some .int)) ({ frames := 1, cells := 0, slots := 0, locals := 24 })).room s m ([.ref h0, .int (nI k)] : List Value).toArray below meth c H locs 0 0 (MQ below (va_Qi (fun (r : Int32) (_ : Unit) => r = nI (zb_num (fun i => zb_byt (g i)) p k)) (k_B D [(dB, .byte)] A (fun (_ : Unit) => [cS h0 qb (p + k), cB qb dB n g])) A) ([.ref h0, .int (nI k)] : List Value).toArray s 0 0 A) (F0 m 129 ls []) := by
    intro j hj hal H locs ls hP hD hS hl
    refine lv_iload_n hx hb dX2_readBits_129 rfl (lv_at hl 0 rfl) ?_
    refine k_le0 (tgt := 221) hx hb dX2_readBits_130 (by decide) (by omega) (fun ck => ?_) (fun ck => ?_)
    · have ej : j = k := by omega
      rw [ej] at hP hD hl
      exact hexit H locs ls hP hD hS (lv_sub hl [1] rfl)
    · exact hloop (k - j) j (Nat.le_refl _) hj hal H locs ls hP hD hS hl
  refine lv_iload_n hx hb dX2_readBits_0 rfl (lv_at hl 1 rfl) ?_
  refine lv_iconst (v := nI 1) hx hb dX2_readBits_1 (by decide) ?_
  refine k_lt (tgt := 19) hx hb dX2_readBits_2 (by decide) (by omega) (by omega) (fun c_2 => absurd c_2 (by omega)) (fun c_2 => ?_)
  refine lv_iload_n hx hb dX2_readBits_5 rfl (lv_at hl 1 rfl) ?_
  refine lv_bipush (v := nI 32) hx hb dX2_readBits_6 (by decide) ?_
  refine k_gt (tgt := 19) hx hb dX2_readBits_8 (by decide) (by omega) (by omega) (fun c_3 => absurd c_3 (by omega)) (fun c_3 => ?_)
  refine lv_iload_n hx hb dX2_readBits_11 rfl (lv_at hl 1 rfl) ?_
  refine lv_aload_n hx hb dX2_readBits_12 rfl (lv_at hl 0 rfl) ?_
  refine k_calli (wr := []) (w2 := fun (u_4 : Unit) => [cS h0 qb p, cB qb dB n g]) (va_runV (As := []) (rest := [.int (nI k)]) ⟨hx, hb, hml, hown, hts⟩ (m_avail l D dB _ h0 qb p n g hn (by omega)) (cwV 0 hts (lw_V q80 q72 q73 q5 q74) rfl rfl rfl (by decide +kernel) ⟨Nat.le_of_ble_eq_true rfl, Nat.le_of_ble_eq_true rfl⟩) (k_preV (k_Psub (ws' := [cS h0 qb p, cB qb dB n g]) hP [0, 1] rfl) hK (va_D.sub (ws' := [cS h0 qb p, cB qb dB n g]) hD [0, 1] (by decide) rfl) 1 0 rfl rfl _) rfl rfl hl.1 rfl (lv_room (Nat.le_of_ble_eq_true rfl)) dX2_readBits_13 ⟨Nat.le_of_ble_eq_true rfl, Nat.le_of_ble_eq_true rfl⟩) hP hD hS hA [0, 1] [] [0, 1] rfl rfl (by decide) (by decide) (fun _ => rfl) (by decide) (fun r_5 u_4 H locs hw_6 hP hD hS => ?_)
  have hP : va_P D vwCl [cS h0 qb p, cB qb dB n g] H := hP
  have hD : va_D A [cS h0 qb p, cB qb dB n g] := hD
  have hw_6 : r_5 = (nI (8 * n - p)) := hw_6
  subst hw_6
  refine k_le (tgt := 29) hx hb dX2_readBits_16 (by decide) (by omega) (by omega) (fun c_7 => ?_) (fun c_7 => absurd c_7 (by omega))
  refine lv_iconst (v := nI 0) hx hb dX2_readBits_29 (by decide) ?_
  refine lv_istore_n (lv' := [(2, .int (nI 0)), (0, .ref h0), (1, .int (nI k))]) hx hb dX2_readBits_30 rfl hl (by decide) rfl (fun ls hl => ?_)
  refine lv_aload_n hx hb dX2_readBits_31 rfl (lv_at hl 1 rfl) ?_
  refine va_get (D := D) (ci := 1) (v := .int (nI (p % 8))) (C := RX2) (T := TX2) (N := 3) hx hb hts in_X2 hown hK hP 0 rfl rfl 2 (by decide) (hts _ q33) (fun _ h9 => h9) rfl dX2_readBits_32 ?_
  refine k_le0 (tgt := 129) hx hb dX2_readBits_35 (by decide) (by omega) (fun cb => ?_) (fun cb => ?_)
  · have hal : (p + 0) % 8 = 0 := by omega
    exact h129 0 (Nat.zero_le k) (Or.inr hal) H _ ls hP hD hS (lv_sub hl [2, 0, 1] rfl)
  · obtain ⟨r, er⟩ : ∃ r, r = min k (8 - p % 8) := ⟨_, rfl⟩
    have hr0 : 0 < r := by omega
    have hr1 : r ≤ k := by omega
    have hr2 : p % 8 + r ≤ 8 := by omega
    have hrk : r = k ∨ p % 8 + r = 8 := by omega
    refine lv_bipush (v := nI 8) hx hb dX2_readBits_38 (by decide) ?_
    refine lv_aload_n hx hb dX2_readBits_40 rfl (lv_at hl 1 rfl) ?_
    refine va_get (D := D) (ci := 1) (v := .int (nI (p % 8))) (C := RX2) (T := TX2) (N := 3) hx hb hts in_X2 hown hK hP 0 rfl rfl 2 (by decide) (hts _ q33) (fun _ h9 => h9) rfl dX2_readBits_41 ?_
    refine lv_isub hx hb dX2_readBits_44 ?_
    refine k_is (y := (nI (8 - (p % 8)))) (pk_sub (by omega)) ?_
    refine lv_istore_n (lv' := [(3, .int (nI (8 - (p % 8)))), (2, .int (nI 0)), (0, .ref h0), (1, .int (nI k))]) hx hb dX2_readBits_45 rfl hl (by decide) rfl (fun ls hl => ?_)
    refine lv_iload_n hx hb dX2_readBits_46 rfl (lv_at hl 3 rfl) ?_
    refine lv_iload_n hx hb dX2_readBits_47 rfl (lv_at hl 0 rfl) ?_
    refine va_mmin hx hb (by rw [hml]; exact hl.1.symm) hown (hts _ q146) (hts _ q147) (hts _ q10) (hts _ q148) (Nat.le_of_ble_eq_true rfl) (Nat.le_of_ble_eq_true rfl) (Nat.le_of_ble_eq_true rfl) (Nat.le_of_ble_eq_true rfl) dX2_readBits_48 ?_
    refine k_is (y := (nI r)) (zb_min (by omega) (by omega) er) ?_
    refine lv_istore (lv' := [(4, .int (nI r)), (3, .int (nI (8 - (p % 8)))), (2, .int (nI 0)), (0, .ref h0), (1, .int (nI k))]) hx hb dX2_readBits_51 hl (by decide) rfl (fun ls hl => ?_)
    refine lv_iload_n hx hb dX2_readBits_53 rfl (lv_at hl 1 rfl) ?_
    refine lv_iload hx hb dX2_readBits_54 (lv_at hl 0 rfl) ?_
    refine lv_isub hx hb dX2_readBits_56 ?_
    refine k_is (y := (nI ((8 - (p % 8)) - r))) (pk_sub (by omega)) ?_
    refine lv_istore (lv' := [(5, .int (nI ((8 - (p % 8)) - r))), (4, .int (nI r)), (3, .int (nI (8 - (p % 8)))), (2, .int (nI 0)), (0, .ref h0), (1, .int (nI k))]) hx hb dX2_readBits_57 hl (by decide) rfl (fun ls hl => ?_)
    refine lv_sipush (v := nI 255) hx hb dX2_readBits_59 (by decide) ?_
    refine lv_bipush (v := nI 8) hx hb dX2_readBits_62 (by decide) ?_
    refine lv_iload hx hb dX2_readBits_64 (lv_at hl 1 rfl) ?_
    refine lv_isub hx hb dX2_readBits_66 ?_
    refine k_is (y := (nI (8 - r))) (pk_sub (by omega)) ?_
    refine lv_ishr hx hb dX2_readBits_67 ?_
    refine k_is (y := (nI (2 ^ r - 1))) (zb_ff (by omega)) ?_
    refine lv_iload hx hb dX2_readBits_68 (lv_at hl 0 rfl) ?_
    refine lv_ishl hx hb dX2_readBits_70 ?_
    refine k_is (y := (nI ((2 ^ r - 1) * 2 ^ (8 - p % 8 - r)))) (zb_ffs (by omega)) ?_
    refine lv_istore (lv' := [(6, .int (nI ((2 ^ r - 1) * 2 ^ (8 - p % 8 - r)))), (5, .int (nI ((8 - (p % 8)) - r))), (4, .int (nI r)), (3, .int (nI (8 - (p % 8)))), (2, .int (nI 0)), (0, .ref h0), (1, .int (nI k))]) hx hb dX2_readBits_71 hl (by decide) rfl (fun ls hl => ?_)
    refine lv_aload_n hx hb dX2_readBits_73 rfl (lv_at hl 5 rfl) ?_
    refine va_get (D := D) (ci := 1) (v := .ref qb) (C := RX2) (T := TX2) (N := 3) hx hb hts in_X2 hown hK hP 0 rfl rfl 0 (by decide) (hts _ q31) (fun _ h9 => h9) rfl dX2_readBits_74 ?_
    refine lv_aload_n hx hb dX2_readBits_77 rfl (lv_at hl 5 rfl) ?_
    refine va_get (D := D) (ci := 1) (v := .int (nI (p / 8))) (C := RX2) (T := TX2) (N := 3) hx hb hts in_X2 hown hK hP 0 rfl rfl 1 (by decide) (hts _ q32) (fun _ h9 => h9) rfl dX2_readBits_78 ?_
    refine va_bald hx hb hK hP 1 0 rfl rfl (vp_in_nI (by omega) (by omega)) dX2_readBits_81 ?_
    refine k_is (y := (g (p / 8))) (congrArg g (nI_clamp (by omega))) ?_
    refine lv_iload hx hb dX2_readBits_82 (lv_at hl 0 rfl) ?_
    refine lv_iand hx hb dX2_readBits_84 ?_
    refine lv_iload hx hb dX2_readBits_85 (lv_at hl 1 rfl) ?_
    refine lv_ishr hx hb dX2_readBits_87 ?_
    refine k_is (y := (nI (zb_num (fun i => zb_byt (g i)) p r))) ((zb_msk _ (by omega)).trans (congrArg nI (zb_num_in (fun i => zb_byt (g i)) p r hr2).symm)) ?_
    refine lv_istore_n (lv' := [(2, .int (nI (zb_num (fun i => zb_byt (g i)) p r))), (6, .int (nI ((2 ^ r - 1) * 2 ^ (8 - p % 8 - r)))), (5, .int (nI ((8 - (p % 8)) - r))), (4, .int (nI r)), (3, .int (nI (8 - (p % 8)))), (0, .ref h0), (1, .int (nI k))]) hx hb dX2_readBits_88 rfl hl (by decide) rfl (fun ls hl => ?_)
    refine lv_iload_n hx hb dX2_readBits_89 rfl (lv_at hl 6 rfl) ?_
    refine lv_iload hx hb dX2_readBits_90 (lv_at hl 3 rfl) ?_
    refine lv_isub hx hb dX2_readBits_92 ?_
    refine k_is (y := (nI (k - r))) (pk_sub (by omega)) ?_
    refine lv_istore_n (lv' := [(1, .int (nI (k - r))), (2, .int (nI (zb_num (fun i => zb_byt (g i)) p r))), (6, .int (nI ((2 ^ r - 1) * 2 ^ (8 - p % 8 - r)))), (5, .int (nI ((8 - (p % 8)) - r))), (4, .int (nI r)), (3, .int (nI (8 - (p % 8)))), (0, .ref h0)]) hx hb dX2_readBits_93 rfl hl (by decide) rfl (fun ls hl => ?_)
    refine lv_aload_n hx hb dX2_readBits_94 rfl (lv_at hl 6 rfl) ?_
    refine lv_dup hx hb dX2_readBits_95 rfl ?_
    refine va_get (D := D) (ci := 1) (v := .int (nI (p % 8))) (C := RX2) (T := TX2) (N := 3) hx hb hts in_X2 hown hK hP 0 rfl rfl 2 (by decide) (hts _ q33) (fun _ h9 => h9) rfl dX2_readBits_96 ?_
    refine lv_iload hx hb dX2_readBits_99 (lv_at hl 4 rfl) ?_
    refine lv_iadd hx hb dX2_readBits_101 ?_
    refine k_is (y := (nI ((p % 8) + r))) (nI_add _ _) ?_
    refine va_put (D := D) (ci := 1) (v := .int (nI ((p % 8) + r))) (ty := .int) (C := RX2) (T := TX2) (N := 3) hx hb hts in_X2 tyX2 tyX2_ok nmX2 hown hK hP hD hS 0 rfl rfl 2 (by decide) (hts _ q33) (fun _ h9 => h9) rfl (by decide +kernel) rfl rfl (Nat.le_of_ble_eq_true rfl) dX2_readBits_102 (fun H locs hP hD hS => ?_)
    have hP : va_P D vwCl [(h0, .inr (1, [.ref qb, .int (nI (p / 8)), .int (nI ((p % 8) + r))])), cB qb dB n g] H := hP
    have hD : va_D A [(h0, .inr (1, [.ref qb, .int (nI (p / 8)), .int (nI ((p % 8) + r))])), cB qb dB n g] := hD
    refine lv_aload_n hx hb dX2_readBits_105 rfl (lv_at hl 6 rfl) ?_
    refine va_get (D := D) (ci := 1) (v := .int (nI ((p % 8) + r))) (C := RX2) (T := TX2) (N := 3) hx hb hts in_X2 hown hK hP 0 rfl rfl 2 (by decide) (hts _ q33) (fun _ h9 => h9) rfl dX2_readBits_106 ?_
    refine lv_bipush (v := nI 8) hx hb dX2_readBits_109 (by decide) ?_
    refine k_ne (tgt := 129) hx hb dX2_readBits_111 (by decide) (by omega) (by omega) (fun c8 => ?_) (fun c8 => ?_)
    · have hP := k_cP (p := p + r) hP (by omega) (by omega)
      have hD := k_cD (p := p + r) hD (by omega) (by omega)
      exact h129 r hr1 (by omega) H _ ls hP hD hS (lv_sub hl [0, 1, 6] rfl)
    · refine lv_aload_n hx hb dX2_readBits_114 rfl (lv_at hl 6 rfl) ?_
      refine lv_iconst (v := nI 0) hx hb dX2_readBits_115 (by decide) ?_
      refine va_put (D := D) (ci := 1) (v := .int (nI 0)) (ty := .int) (C := RX2) (T := TX2) (N := 3) hx hb hts in_X2 tyX2 tyX2_ok nmX2 hown hK hP hD hS 0 rfl rfl 2 (by decide) (hts _ q33) (fun _ h9 => h9) rfl (by decide +kernel) rfl rfl (Nat.le_of_ble_eq_true rfl) dX2_readBits_116 (fun H locs hP hD hS => ?_)
      have hP : va_P D vwCl [(h0, .inr (1, [.ref qb, .int (nI (p / 8)), .int (nI 0)])), cB qb dB n g] H := hP
      have hD : va_D A [(h0, .inr (1, [.ref qb, .int (nI (p / 8)), .int (nI 0)])), cB qb dB n g] := hD
      refine lv_aload_n hx hb dX2_readBits_119 rfl (lv_at hl 6 rfl) ?_
      refine lv_dup hx hb dX2_readBits_120 rfl ?_
      refine va_get (D := D) (ci := 1) (v := .int (nI (p / 8))) (C := RX2) (T := TX2) (N := 3) hx hb hts in_X2 hown hK hP 0 rfl rfl 1 (by decide) (hts _ q32) (fun _ h9 => h9) rfl dX2_readBits_121 ?_
      refine lv_iconst (v := nI 1) hx hb dX2_readBits_124 (by decide) ?_
      refine lv_iadd hx hb dX2_readBits_125 ?_
      refine k_is (y := (nI ((p / 8) + 1))) (nI_add _ _) ?_
      refine va_put (D := D) (ci := 1) (v := .int (nI ((p / 8) + 1))) (ty := .int) (C := RX2) (T := TX2) (N := 3) hx hb hts in_X2 tyX2 tyX2_ok nmX2 hown hK hP hD hS 0 rfl rfl 1 (by decide) (hts _ q32) (fun _ h9 => h9) rfl (by decide +kernel) rfl rfl (Nat.le_of_ble_eq_true rfl) dX2_readBits_126 (fun H locs hP hD hS => ?_)
      have hP : va_P D vwCl [(h0, .inr (1, [.ref qb, .int (nI ((p / 8) + 1)), .int (nI 0)])), cB qb dB n g] H := hP
      have hD : va_D A [(h0, .inr (1, [.ref qb, .int (nI ((p / 8) + 1)), .int (nI 0)])), cB qb dB n g] := hD
      have hP := k_cP (p := p + r) hP (by omega) (by omega)
      have hD := k_cD (p := p + r) hD (by omega) (by omega)
      exact h129 r hr1 (by omega) H _ ls hP hD hS (lv_sub hl [0, 1, 6] rfl)
end
section
/-! CONTRACTS OF BitReader: its text f with z bytes put, its source over n bytes g with p bits read -/
set_option maxRecDepth 100000
set_option maxHeartbeats 4000000 in
set_option maxRecDepth 100000 in
/-- BitReader(): an empty text, an empty source -/
theorem m_rinit (l : Launch) (D : va_G) (dB : ClassId) (sz : Nat) (h0 : Nat) : Met l yX1_init (ws_ yX1_init cX1_init 1 none) ({ frames := 2, cells := 3, slots := 4099, locals := 50 }) (k_Pc D [(dB, .byte)] [.ref h0] [(h0, .inr (0, [.null, .int (nI 0), .null]))] sz) (va_Qv (fun (_ : Nat × Nat × Nat) => True) (k_B D [(dB, .byte)] (va_A [(h0, .inr (0, [.null, .int (nI 0), .null]))] sz) (fun (u : Nat × Nat × Nat) => [cR h0 u.1 0 u.2.1, cT u.1 dB (fun _ => 0), cS u.2.1 u.2.2 0, cB u.2.2 dB 0 (fun _ => 0)])) (va_A [(h0, .inr (0, [.null, .int (nI 0), .null]))] sz)) 3 4099 (va_A [(h0, .inr (0, [.null, .int (nI 0), .null]))] sz) := by
  refine Met.ofW (cc := cX1_init) (maxL := 1) (ret := none) (by decide) rfl ?_
  intro pg e s m args below meth c s₁ B hml hv
  obtain ⟨rfl, hsz, hP, hK, hD0⟩ := hv
  have hx := B.exec
  have hb := B.bytes
  have hr := B.returns
  have hts := atoms_spec (ws := (ws_ yX1_init cX1_init 1 none)) B.pre
  have hts : ∀ w ∈ lw_all, w.before _ s = true := fun w h => hts w (List.mem_cons_of_mem _ h)
  have hown : s.vm.findClass RX1 = some m.cls := findClass_of_methodNamed B.named
  have hlocks := B.notSynchronized
  have hin : meth.name = "<init>" := (name_of_methodNamed B.named B.method).1
  subst hsz
  have hD := hD0.self (sz := s.heap.size)
  generalize hAe : va_A [(h0, .inr (0, [.null, .int (nI 0), .null]))] s.heap.size = A at hD ⊢
  have hA : ∀ q : Nat, s.heap.size ≤ q → A q := fun q h => by rw [← hAe]; exact Or.inr h
  have hS : va_S A s.heap s.heap [] := va_S.rf
  have hl := lv_entry ([.ref h0]) (n := 1) (Nat.le_of_ble_eq_true rfl)
  rw [lg_entry_eq]
  generalize (lg_sl ([.ref h0]) ++ List.replicate (1 - (lg_sl ([.ref h0])).length) Slot.unset).toArray = ls at hl ⊢
  have hl : lv_has ls 1 [(0, .ref h0)] := hl
  refine lv_aload_n hx hb dX1_init_0 rfl (lv_at hl 0 rfl) ?_
  refine W.objInit hx hb hown (hts _ q22) (hts _ q23) (hts _ q24) rfl (by rw [hml]; exact hl.1) rfl dX1_init_1 (Nat.le_of_ble_eq_true rfl) (Nat.le_of_ble_eq_true rfl) ?_
  refine W.eq (g2 := F0 m 4 ls []) rfl ?_
  refine lv_aload_n hx hb dX1_init_4 rfl (lv_at hl 0 rfl) ?_
  refine lv_sipush (v := nI 4096) hx hb dX1_init_5 (by decide) ?_
  refine va_newa (atype := .byte) (ty := .byte) (a0 := (4096, .inl (fun _ => 0))) hx hb (hts _ q41) rfl hK hP hD hS hA (fun _ => rfl) (nI_pos (by omega)) (nI_clamp (by omega)) (Nat.le_of_ble_eq_true rfl) (Nat.le_of_ble_eq_true rfl) (Nat.le_of_ble_eq_true rfl) dX1_init_8 (fun qt_1 dB_2 H hK2 hP hD hS => ?_)
  have edB_2 := k_dB hK2
  subst edB_2
  have hP : va_P D vwCl [(h0, .inr (0, [.null, .int (nI 0), .null])), cT qt_1 dB (fun _ => 0)] H := hP
  have hD : va_D A [(h0, .inr (0, [.null, .int (nI 0), .null])), cT qt_1 dB (fun _ => 0)] := hD
  refine va_putF (D := D) (ci := 0) (v := .ref qt_1) (ty := .array .byte) (C := RX1) (T := TX1) (N := 3) hx hb hts in_X1 tyX1 tyX1_ok nmX1 hown hK hP hD hS 0 rfl rfl 0 (by decide) (hts _ q42) (fun _ h9 => h9) rfl hin rfl (by decide +kernel) rfl rfl (Nat.le_of_ble_eq_true rfl) dX1_init_10 (fun H locs hP hD hS => ?_)
  have hP : va_P D vwCl [(h0, .inr (0, [.ref qt_1, .int (nI 0), .null])), cT qt_1 dB (fun _ => 0)] H := hP
  have hD : va_D A [(h0, .inr (0, [.ref qt_1, .int (nI 0), .null])), cT qt_1 dB (fun _ => 0)] := hD
  refine lv_aload_n hx hb dX1_init_13 rfl (lv_at hl 0 rfl) ?_
  refine va_new (ci := 1) (fs := [.null, .int (nI 0), .int (nI 0)]) (C := RX2) (T := TX2) (N := 3) hx hb hts in_X2 tyX2 tyX2_ok hown (hts _ q25) (hts _ q26) (hts _ q5) hK hP hD hS hA rfl (fun j hj => by rcases (show j = 0 ∨ j = 1 ∨ j = 2 by omega) with rfl | rfl | rfl <;> rfl) (Nat.le_of_ble_eq_true rfl) (Nat.le_of_ble_eq_true rfl) dX1_init_14 (fun qs_3 H hP hD hS => ?_)
  have hP : va_P D vwCl [(h0, .inr (0, [.ref qt_1, .int (nI 0), .null])), cT qt_1 dB (fun _ => 0), (qs_3, .inr (1, [.null, .int (nI 0), .int (nI 0)]))] H := hP
  have hD : va_D A [(h0, .inr (0, [.ref qt_1, .int (nI 0), .null])), cT qt_1 dB (fun _ => 0), (qs_3, .inr (1, [.null, .int (nI 0), .int (nI 0)]))] := hD
  refine lv_dup hx hb dX1_init_17 rfl ?_
  refine lv_iconst (v := nI 0) hx hb dX1_init_18 (by decide) ?_
  refine va_newa (atype := .byte) (ty := .byte) (a0 := (0, .inl (fun _ => 0))) hx hb (hts _ q41) rfl hK hP hD hS hA (fun _ => rfl) (nI_pos (by omega)) (nI_clamp (by omega)) (Nat.le_of_ble_eq_true rfl) (Nat.le_of_ble_eq_true rfl) (Nat.le_of_ble_eq_true rfl) dX1_init_19 (fun qb_4 dB_5 H hK2 hP hD hS => ?_)
  have edB_5 := k_dB hK2
  subst edB_5
  have hP : va_P D vwCl [(h0, .inr (0, [.ref qt_1, .int (nI 0), .null])), cT qt_1 dB (fun _ => 0), (qs_3, .inr (1, [.null, .int (nI 0), .int (nI 0)])), cB qb_4 dB 0 (fun _ => 0)] H := hP
  have hD : va_D A [(h0, .inr (0, [.ref qt_1, .int (nI 0), .null])), cT qt_1 dB (fun _ => 0), (qs_3, .inr (1, [.null, .int (nI 0), .int (nI 0)])), cB qb_4 dB 0 (fun _ => 0)] := hD
  refine k_callv (wr := [(h0, .inr (0, [.ref qt_1, .int (nI 0), .null])), cT qt_1 dB (fun _ => 0), cB qb_4 dB 0 (fun _ => 0)]) (w2 := fun (u_6 : Unit) => [(h0, .inr (0, [.ref qt_1, .int (nI 0), .null])), cT qt_1 dB (fun _ => 0), cS qs_3 qb_4 0, cB qb_4 dB 0 (fun _ => 0)]) (va_runI (As := [.ref qb_4]) (rest := [.ref qs_3, .ref h0]) ⟨hx, hb, hml, hown, hts⟩ (m_sinit l D dB _ qs_3 qb_4) (cwI 1 hts (lw_meth q29) rfl rfl rfl (hts _ q5) (hts _ q27) (hts _ q28) rfl (by decide +kernel) ⟨Nat.le_of_ble_eq_true rfl, Nat.le_of_ble_eq_true rfl⟩) (k_preS (k_Psub (ws' := [(qs_3, .inr (1, [.null, .int (nI 0), .int (nI 0)]))]) hP [2] rfl) hK (va_D.sub (ws' := [(qs_3, .inr (1, [.null, .int (nI 0), .int (nI 0)]))]) hD [2] (by decide) rfl) _) rfl rfl hl.1 rfl (lv_room (Nat.le_of_ble_eq_true rfl)) dX1_init_21 ⟨Nat.le_of_ble_eq_true rfl, Nat.le_of_ble_eq_true rfl⟩) hP hD hS hA [2] [0, 1, 3] [0, 1, 3, 2] rfl rfl (by decide) (by decide) (fun _ => rfl) (by decide) (fun u_6 H locs hw_8 hP hD hS => ?_)
  have hP : va_P D vwCl [(h0, .inr (0, [.ref qt_1, .int (nI 0), .null])), cT qt_1 dB (fun _ => 0), cS qs_3 qb_4 0, cB qb_4 dB 0 (fun _ => 0)] H := hP
  have hD : va_D A [(h0, .inr (0, [.ref qt_1, .int (nI 0), .null])), cT qt_1 dB (fun _ => 0), cS qs_3 qb_4 0, cB qb_4 dB 0 (fun _ => 0)] := hD
  refine va_put (D := D) (ci := 0) (v := .ref qs_3) (ty := .object "BitSource") (C := RX1) (T := TX1) (N := 3) hx hb hts in_X1 tyX1 tyX1_ok nmX1 hown hK hP hD hS 0 rfl rfl 2 (by decide) (hts _ q44) (fun _ h9 => h9) rfl (by decide +kernel) rfl rfl (Nat.le_of_ble_eq_true rfl) dX1_init_24 (fun H locs hP hD hS => ?_)
  have hP : va_P D vwCl [cR h0 qt_1 0 qs_3, cT qt_1 dB (fun _ => 0), cS qs_3 qb_4 0, cB qb_4 dB 0 (fun _ => 0)] H := hP
  have hD : va_D A [cR h0 qt_1 0 qs_3, cT qt_1 dB (fun _ => 0), cS qs_3 qb_4 0, cB qb_4 dB 0 (fun _ => 0)] := hD
  refine W.widen (k := 3) (n := 4099) (Nat.le_of_ble_eq_true rfl) (Nat.le_of_ble_eq_true rfl) ?_
  exact W.vret hx hb hr (fun t ht hW => ⟨⟨(qt_1, qs_3, qb_4), rfl, trivial, by rw [ht]; exact hP, va_K.moved hW.alike hK, hD⟩, hS.F ht⟩) hS.2.2 dX1_init_27

set_option maxHeartbeats 4000000 in
set_option maxRecDepth 100000 in
/-- word(a, w): the four bytes of w lie at a -/
theorem m_word (l : Launch) (D : va_G) (dB : ClassId) (sz : Nat) (h0 qt z qs : Nat) (f : Nat → Int32) (a : Nat) (w : Int32) (ha : a + 4 ≤ 4096) : Met l yX1_word (ws_ yX1_word cX1_word 3 none) ({ frames := 0, cells := 0, slots := 0, locals := 0 }) (k_Pc D [(dB, .byte)] [.ref h0, .int (nI a), .int w] [cR h0 qt z qs, cT qt dB f] sz) (va_Qv (fun (f1 : Nat → Int32) => ∀ i, zb_byt (f1 i) = if a ≤ i ∧ i < a + 4 then zb_in4 w (i - a) else zb_byt (f i)) (k_B D [(dB, .byte)] (va_A [cR h0 qt z qs, cT qt dB f] sz) (fun (f1 : Nat → Int32) => [cR h0 qt z qs, cT qt dB f1])) (va_A [cR h0 qt z qs, cT qt dB f] sz)) 0 0 (va_A [cR h0 qt z qs, cT qt dB f] sz) := by
  refine Met.ofW (cc := cX1_word) (maxL := 3) (ret := none) (by decide) rfl ?_
  intro pg e s m args below meth c s₁ B hml hv
  obtain ⟨rfl, hsz, hP, hK, hD0⟩ := hv
  have hx := B.exec
  have hb := B.bytes
  have hr := B.returns
  have hts := atoms_spec (ws := (ws_ yX1_word cX1_word 3 none)) B.pre
  have hts : ∀ w ∈ lw_all, w.before _ s = true := fun w h => hts w (List.mem_cons_of_mem _ h)
  have hown : s.vm.findClass RX1 = some m.cls := findClass_of_methodNamed B.named
  have hlocks := B.notSynchronized
  subst hsz
  have hD := hD0.self (sz := s.heap.size)
  generalize hAe : va_A [cR h0 qt z qs, cT qt dB f] s.heap.size = A at hD ⊢
  have hA : ∀ q : Nat, s.heap.size ≤ q → A q := fun q h => by rw [← hAe]; exact Or.inr h
  have hS : va_S A s.heap s.heap [] := va_S.rf
  have hl := lv_entry ([.ref h0, .int (nI a), .int w]) (n := 3) (Nat.le_of_ble_eq_true rfl)
  rw [lg_entry_eq]
  generalize (lg_sl ([.ref h0, .int (nI a), .int w]) ++ List.replicate (3 - (lg_sl ([.ref h0, .int (nI a), .int w])).length) Slot.unset).toArray = ls at hl ⊢
  have hl : lv_has ls 3 [(0, .ref h0), (1, .int (nI a)), (2, .int w)] := hl
  refine lv_aload_n hx hb dX1_word_0 rfl (lv_at hl 0 rfl) ?_
  refine va_get (D := D) (ci := 0) (v := .ref qt) (C := RX1) (T := TX1) (N := 3) hx hb hts in_X1 hown hK hP 0 rfl rfl 0 (by decide) (hts _ q42) (fun _ h9 => h9) rfl dX1_word_1 ?_
  refine lv_iload_n hx hb dX1_word_4 rfl (lv_at hl 1 rfl) ?_
  refine lv_iload_n hx hb dX1_word_5 rfl (lv_at hl 2 rfl) ?_
  refine lv_bipush (v := nI 24) hx hb dX1_word_6 (by decide) ?_
  refine lv_ishr hx hb dX1_word_8 ?_
  refine lv_i2b hx hb dX1_word_9 rfl ?_
  refine va_bast hx hb hK hP hD hS 1 0 rfl rfl (vp_in_nI (by omega) (by omega)) dX1_word_10 (fun H locs hP hD hS => ?_)
  rw [nI_clamp (n := a) (by omega)] at hP hD
  have hP : va_P D vwCl [cR h0 qt z qs, cT qt dB (upd f a (vp_nar .byte ((w >>> ((nI 24) &&& 31)).toInt8.toInt32)))] H := hP
  have hD : va_D A [cR h0 qt z qs, cT qt dB (upd f a (vp_nar .byte ((w >>> ((nI 24) &&& 31)).toInt8.toInt32)))] := hD
  refine lv_aload_n hx hb dX1_word_11 rfl (lv_at hl 0 rfl) ?_
  refine va_get (D := D) (ci := 0) (v := .ref qt) (C := RX1) (T := TX1) (N := 3) hx hb hts in_X1 hown hK hP 0 rfl rfl 0 (by decide) (hts _ q42) (fun _ h9 => h9) rfl dX1_word_12 ?_
  refine lv_iload_n hx hb dX1_word_15 rfl (lv_at hl 1 rfl) ?_
  refine lv_iconst (v := nI 1) hx hb dX1_word_16 (by decide) ?_
  refine lv_iadd hx hb dX1_word_17 ?_
  refine k_is (y := (nI (a + 1))) (nI_add _ _) ?_
  refine lv_iload_n hx hb dX1_word_18 rfl (lv_at hl 2 rfl) ?_
  refine lv_bipush (v := nI 16) hx hb dX1_word_19 (by decide) ?_
  refine lv_ishr hx hb dX1_word_21 ?_
  refine lv_i2b hx hb dX1_word_22 rfl ?_
  refine va_bast hx hb hK hP hD hS 1 0 rfl rfl (vp_in_nI (by omega) (by omega)) dX1_word_23 (fun H locs hP hD hS => ?_)
  rw [nI_clamp (n := a + 1) (by omega)] at hP hD
  have hP : va_P D vwCl [cR h0 qt z qs, cT qt dB (upd (upd f a (vp_nar .byte ((w >>> ((nI 24) &&& 31)).toInt8.toInt32))) (a + 1) (vp_nar .byte ((w >>> ((nI 16) &&& 31)).toInt8.toInt32)))] H := hP
  have hD : va_D A [cR h0 qt z qs, cT qt dB (upd (upd f a (vp_nar .byte ((w >>> ((nI 24) &&& 31)).toInt8.toInt32))) (a + 1) (vp_nar .byte ((w >>> ((nI 16) &&& 31)).toInt8.toInt32)))] := hD
  refine lv_aload_n hx hb dX1_word_24 rfl (lv_at hl 0 rfl) ?_
  refine va_get (D := D) (ci := 0) (v := .ref qt) (C := RX1) (T := TX1) (N := 3) hx hb hts in_X1 hown hK hP 0 rfl rfl 0 (by decide) (hts _ q42) (fun _ h9 => h9) rfl dX1_word_25 ?_
  refine lv_iload_n hx hb dX1_word_28 rfl (lv_at hl 1 rfl) ?_
  refine lv_iconst (v := nI 2) hx hb dX1_word_29 (by decide) ?_
  refine lv_iadd hx hb dX1_word_30 ?_
  refine k_is (y := (nI (a + 2))) (nI_add _ _) ?_
  refine lv_iload_n hx hb dX1_word_31 rfl (lv_at hl 2 rfl) ?_
  refine lv_bipush (v := nI 8) hx hb dX1_word_32 (by decide) ?_
  refine lv_ishr hx hb dX1_word_34 ?_
  refine lv_i2b hx hb dX1_word_35 rfl ?_
  refine va_bast hx hb hK hP hD hS 1 0 rfl rfl (vp_in_nI (by omega) (by omega)) dX1_word_36 (fun H locs hP hD hS => ?_)
  rw [nI_clamp (n := a + 2) (by omega)] at hP hD
  have hP : va_P D vwCl [cR h0 qt z qs, cT qt dB (upd (upd (upd f a (vp_nar .byte ((w >>> ((nI 24) &&& 31)).toInt8.toInt32))) (a + 1) (vp_nar .byte ((w >>> ((nI 16) &&& 31)).toInt8.toInt32))) (a + 2) (vp_nar .byte ((w >>> ((nI 8) &&& 31)).toInt8.toInt32)))] H := hP
  have hD : va_D A [cR h0 qt z qs, cT qt dB (upd (upd (upd f a (vp_nar .byte ((w >>> ((nI 24) &&& 31)).toInt8.toInt32))) (a + 1) (vp_nar .byte ((w >>> ((nI 16) &&& 31)).toInt8.toInt32))) (a + 2) (vp_nar .byte ((w >>> ((nI 8) &&& 31)).toInt8.toInt32)))] := hD
  refine lv_aload_n hx hb dX1_word_37 rfl (lv_at hl 0 rfl) ?_
  refine va_get (D := D) (ci := 0) (v := .ref qt) (C := RX1) (T := TX1) (N := 3) hx hb hts in_X1 hown hK hP 0 rfl rfl 0 (by decide) (hts _ q42) (fun _ h9 => h9) rfl dX1_word_38 ?_
  refine lv_iload_n hx hb dX1_word_41 rfl (lv_at hl 1 rfl) ?_
  refine lv_iconst (v := nI 3) hx hb dX1_word_42 (by decide) ?_
  refine lv_iadd hx hb dX1_word_43 ?_
  refine k_is (y := (nI (a + 3))) (nI_add _ _) ?_
  refine lv_iload_n hx hb dX1_word_44 rfl (lv_at hl 2 rfl) ?_
  refine lv_i2b hx hb dX1_word_45 rfl ?_
  refine va_bast hx hb hK hP hD hS 1 0 rfl rfl (vp_in_nI (by omega) (by omega)) dX1_word_46 (fun H locs hP hD hS => ?_)
  rw [nI_clamp (n := a + 3) (by omega)] at hP hD
  have hP : va_P D vwCl [cR h0 qt z qs, cT qt dB (upd (upd (upd (upd f a (vp_nar .byte ((w >>> ((nI 24) &&& 31)).toInt8.toInt32))) (a + 1) (vp_nar .byte ((w >>> ((nI 16) &&& 31)).toInt8.toInt32))) (a + 2) (vp_nar .byte ((w >>> ((nI 8) &&& 31)).toInt8.toInt32))) (a + 3) (vp_nar .byte w.toInt8.toInt32))] H := hP
  have hD : va_D A [cR h0 qt z qs, cT qt dB (upd (upd (upd (upd f a (vp_nar .byte ((w >>> ((nI 24) &&& 31)).toInt8.toInt32))) (a + 1) (vp_nar .byte ((w >>> ((nI 16) &&& 31)).toInt8.toInt32))) (a + 2) (vp_nar .byte ((w >>> ((nI 8) &&& 31)).toInt8.toInt32))) (a + 3) (vp_nar .byte w.toInt8.toInt32))] := hD
  refine W.widen (k := 0) (n := 0) (Nat.le_of_ble_eq_true rfl) (Nat.le_of_ble_eq_true rfl) ?_
  exact W.vret hx hb hr (fun t ht hW => ⟨⟨upd (upd (upd (upd f a (vp_nar .byte ((w >>> ((nI 24) &&& 31)).toInt8.toInt32))) (a + 1) (vp_nar .byte ((w >>> ((nI 16) &&& 31)).toInt8.toInt32))) (a + 2) (vp_nar .byte ((w >>> ((nI 8) &&& 31)).toInt8.toInt32))) (a + 3) (vp_nar .byte w.toInt8.toInt32), rfl, zb_word f a w _ _ _ _ (zb_b0 w) (zb_b1 w) (zb_b2 w) (zb_b3 w), by rw [ht]; exact hP, va_K.moved hW.alike hK, hD⟩, hS.F ht⟩) hS.2.2 dX1_word_47

set_option maxHeartbeats 4000000 in
set_option maxRecDepth 100000 in
/-- put(a, b, c, d) where it fits: the 16 bytes lie at z -/
theorem m_put (l : Launch) (D : va_G) (dB : ClassId) (sz : Nat) (h0 qt qs qb z : Nat) (f : Nat → Int32) (p n : Nat) (g : Nat → Int32) (w0 w1 w2 w3 : Int32) (hz : z ≤ 4080) : Met l yX1_put (ws_ yX1_put cX1_put 5 (some .boolean)) ({ frames := 1, cells := 0, slots := 0, locals := 24 }) (k_Pc D [(dB, .byte)] [.ref h0, .int w0, .int w1, .int w2, .int w3] [cR h0 qt z qs, cT qt dB f, cS qs qb p, cB qb dB n g] sz) (va_Qi (fun (r : Int32) (f1 : Nat → Int32) => r = nI 1 ∧ ∀ i, zb_byt (f1 i) = if z ≤ i ∧ i < z + 16 then zb_in4 (zb_pick w0 w1 w2 w3 ((i - z) / 4)) ((i - z) % 4) else zb_byt (f i)) (k_B D [(dB, .byte)] (va_A [cR h0 qt z qs, cT qt dB f, cS qs qb p, cB qb dB n g] sz) (fun (f1 : Nat → Int32) => [cR h0 qt (z + 16) qs, cT qt dB f1, cS qs qb p, cB qb dB n g])) (va_A [cR h0 qt z qs, cT qt dB f, cS qs qb p, cB qb dB n g] sz)) 0 0 (va_A [cR h0 qt z qs, cT qt dB f, cS qs qb p, cB qb dB n g] sz) := by
  refine Met.ofW (cc := cX1_put) (maxL := 5) (ret := (some .boolean)) (by decide) rfl ?_
  intro pg e s m args below meth c s₁ B hml hv
  obtain ⟨rfl, hsz, hP, hK, hD0⟩ := hv
  have hx := B.exec
  have hb := B.bytes
  have hr := B.returns
  have hts := atoms_spec (ws := (ws_ yX1_put cX1_put 5 (some .boolean))) B.pre
  have hts : ∀ w ∈ lw_all, w.before _ s = true := fun w h => hts w (List.mem_cons_of_mem _ h)
  have hown : s.vm.findClass RX1 = some m.cls := findClass_of_methodNamed B.named
  have hlocks := B.notSynchronized
  subst hsz
  have hD := hD0.self (sz := s.heap.size)
  generalize hAe : va_A [cR h0 qt z qs, cT qt dB f, cS qs qb p, cB qb dB n g] s.heap.size = A at hD ⊢
  have hA : ∀ q : Nat, s.heap.size ≤ q → A q := fun q h => by rw [← hAe]; exact Or.inr h
  have hS : va_S A s.heap s.heap [] := va_S.rf
  have hl := lv_entry ([.ref h0, .int w0, .int w1, .int w2, .int w3]) (n := 5) (Nat.le_of_ble_eq_true rfl)
  rw [lg_entry_eq]
  generalize (lg_sl ([.ref h0, .int w0, .int w1, .int w2, .int w3]) ++ List.replicate (5 - (lg_sl ([.ref h0, .int w0, .int w1, .int w2, .int w3])).length) Slot.unset).toArray = ls at hl ⊢
  have hl : lv_has ls 5 [(0, .ref h0), (1, .int w0), (2, .int w1), (3, .int w2), (4, .int w3)] := hl
  refine lv_aload_n hx hb dX1_put_0 rfl (lv_at hl 0 rfl) ?_
  refine va_get (D := D) (ci := 0) (v := .int (nI z)) (C := RX1) (T := TX1) (N := 3) hx hb hts in_X1 hown hK hP 0 rfl rfl 1 (by decide) (hts _ q43) (fun _ h9 => h9) rfl dX1_put_1 ?_
  refine lv_aload_n hx hb dX1_put_4 rfl (lv_at hl 0 rfl) ?_
  refine va_get (D := D) (ci := 0) (v := .ref qt) (C := RX1) (T := TX1) (N := 3) hx hb hts in_X1 hown hK hP 0 rfl rfl 0 (by decide) (hts _ q42) (fun _ h9 => h9) rfl dX1_put_5 ?_
  refine va_alen (v := nI 4096) hx hb hK hP 1 0 rfl rfl rfl dX1_put_8 ?_
  refine lv_bipush (v := nI 16) hx hb dX1_put_9 (by decide) ?_
  refine lv_isub hx hb dX1_put_11 ?_
  refine k_is (y := (nI (4096 - 16))) (pk_sub (by omega)) ?_
  refine k_le (tgt := 17) hx hb dX1_put_12 (by decide) (by omega) (by omega) (fun c_9 => ?_) (fun c_9 => absurd c_9 (by omega))
  refine lv_aload_n hx hb dX1_put_17 rfl (lv_at hl 0 rfl) ?_
  refine lv_aload_n hx hb dX1_put_18 rfl (lv_at hl 0 rfl) ?_
  refine va_get (D := D) (ci := 0) (v := .int (nI z)) (C := RX1) (T := TX1) (N := 3) hx hb hts in_X1 hown hK hP 0 rfl rfl 1 (by decide) (hts _ q43) (fun _ h9 => h9) rfl dX1_put_19 ?_
  refine lv_iload_n hx hb dX1_put_22 rfl (lv_at hl 1 rfl) ?_
  refine k_callv (wr := [cS qs qb p, cB qb dB n g]) (w2 := fun (u_10 : Nat → Int32) => [cR h0 qt z qs, cT qt dB u_10, cS qs qb p, cB qb dB n g]) (va_runV (As := [.int (nI z), .int w0]) (rest := []) ⟨hx, hb, hml, hown, hts⟩ (m_word l D dB _ h0 qt z qs f z w0 (by omega)) (cwV 2 hts (lw_V q59 q61 qs0 q4 q62) rfl rfl rfl (by decide +kernel) ⟨Nat.le_of_ble_eq_true rfl, Nat.le_of_ble_eq_true rfl⟩) (k_preV (k_Psub (ws' := [cR h0 qt z qs, cT qt dB f]) hP [0, 1] rfl) hK (va_D.sub (ws' := [cR h0 qt z qs, cT qt dB f]) hD [0, 1] (by decide) rfl) 0 0 rfl rfl _) rfl rfl hl.1 rfl (lv_room (Nat.le_of_ble_eq_true rfl)) dX1_put_23 ⟨Nat.le_of_ble_eq_true rfl, Nat.le_of_ble_eq_true rfl⟩) hP hD hS hA [0, 1] [2, 3] [2, 3, 0, 1] rfl rfl (by decide) (by decide) (fun _ => rfl) (by decide) (fun u_10 H locs hw_12 hP hD hS => ?_)
  obtain ⟨f1, rfl⟩ : ∃ z, z = u_10 := ⟨_, rfl⟩
  have hP : va_P D vwCl [cR h0 qt z qs, cT qt dB f1, cS qs qb p, cB qb dB n g] H := hP
  have hD : va_D A [cR h0 qt z qs, cT qt dB f1, cS qs qb p, cB qb dB n g] := hD
  have hw_12 : ∀ i, zb_byt (f1 i) = if z ≤ i ∧ i < z + 4 then zb_in4 w0 (i - z) else zb_byt (f i) := hw_12
  refine lv_aload_n hx hb dX1_put_26 rfl (lv_at hl 0 rfl) ?_
  refine lv_aload_n hx hb dX1_put_27 rfl (lv_at hl 0 rfl) ?_
  refine va_get (D := D) (ci := 0) (v := .int (nI z)) (C := RX1) (T := TX1) (N := 3) hx hb hts in_X1 hown hK hP 0 rfl rfl 1 (by decide) (hts _ q43) (fun _ h9 => h9) rfl dX1_put_28 ?_
  refine lv_iconst (v := nI 4) hx hb dX1_put_31 (by decide) ?_
  refine lv_iadd hx hb dX1_put_32 ?_
  refine k_is (y := (nI (z + 4))) (nI_add _ _) ?_
  refine lv_iload_n hx hb dX1_put_33 rfl (lv_at hl 2 rfl) ?_
  refine k_callv (wr := [cS qs qb p, cB qb dB n g]) (w2 := fun (u_13 : Nat → Int32) => [cR h0 qt z qs, cT qt dB u_13, cS qs qb p, cB qb dB n g]) (va_runV (As := [.int (nI (z + 4)), .int w1]) (rest := []) ⟨hx, hb, hml, hown, hts⟩ (m_word l D dB _ h0 qt z qs f1 (z + 4) w1 (by omega)) (cwV 2 hts (lw_V q59 q61 qs0 q4 q62) rfl rfl rfl (by decide +kernel) ⟨Nat.le_of_ble_eq_true rfl, Nat.le_of_ble_eq_true rfl⟩) (k_preV (k_Psub (ws' := [cR h0 qt z qs, cT qt dB f1]) hP [0, 1] rfl) hK (va_D.sub (ws' := [cR h0 qt z qs, cT qt dB f1]) hD [0, 1] (by decide) rfl) 0 0 rfl rfl _) rfl rfl hl.1 rfl (lv_room (Nat.le_of_ble_eq_true rfl)) dX1_put_34 ⟨Nat.le_of_ble_eq_true rfl, Nat.le_of_ble_eq_true rfl⟩) hP hD hS hA [0, 1] [2, 3] [2, 3, 0, 1] rfl rfl (by decide) (by decide) (fun _ => rfl) (by decide) (fun u_13 H locs hw_15 hP hD hS => ?_)
  obtain ⟨f2, rfl⟩ : ∃ z, z = u_13 := ⟨_, rfl⟩
  have hP : va_P D vwCl [cR h0 qt z qs, cT qt dB f2, cS qs qb p, cB qb dB n g] H := hP
  have hD : va_D A [cR h0 qt z qs, cT qt dB f2, cS qs qb p, cB qb dB n g] := hD
  have hw_15 : ∀ i, zb_byt (f2 i) = if z + 4 ≤ i ∧ i < z + 4 + 4 then zb_in4 w1 (i - (z + 4)) else zb_byt (f1 i) := hw_15
  refine lv_aload_n hx hb dX1_put_37 rfl (lv_at hl 0 rfl) ?_
  refine lv_aload_n hx hb dX1_put_38 rfl (lv_at hl 0 rfl) ?_
  refine va_get (D := D) (ci := 0) (v := .int (nI z)) (C := RX1) (T := TX1) (N := 3) hx hb hts in_X1 hown hK hP 0 rfl rfl 1 (by decide) (hts _ q43) (fun _ h9 => h9) rfl dX1_put_39 ?_
  refine lv_bipush (v := nI 8) hx hb dX1_put_42 (by decide) ?_
  refine lv_iadd hx hb dX1_put_44 ?_
  refine k_is (y := (nI (z + 8))) (nI_add _ _) ?_
  refine lv_iload_n hx hb dX1_put_45 rfl (lv_at hl 3 rfl) ?_
  refine k_callv (wr := [cS qs qb p, cB qb dB n g]) (w2 := fun (u_16 : Nat → Int32) => [cR h0 qt z qs, cT qt dB u_16, cS qs qb p, cB qb dB n g]) (va_runV (As := [.int (nI (z + 8)), .int w2]) (rest := []) ⟨hx, hb, hml, hown, hts⟩ (m_word l D dB _ h0 qt z qs f2 (z + 8) w2 (by omega)) (cwV 2 hts (lw_V q59 q61 qs0 q4 q62) rfl rfl rfl (by decide +kernel) ⟨Nat.le_of_ble_eq_true rfl, Nat.le_of_ble_eq_true rfl⟩) (k_preV (k_Psub (ws' := [cR h0 qt z qs, cT qt dB f2]) hP [0, 1] rfl) hK (va_D.sub (ws' := [cR h0 qt z qs, cT qt dB f2]) hD [0, 1] (by decide) rfl) 0 0 rfl rfl _) rfl rfl hl.1 rfl (lv_room (Nat.le_of_ble_eq_true rfl)) dX1_put_46 ⟨Nat.le_of_ble_eq_true rfl, Nat.le_of_ble_eq_true rfl⟩) hP hD hS hA [0, 1] [2, 3] [2, 3, 0, 1] rfl rfl (by decide) (by decide) (fun _ => rfl) (by decide) (fun u_16 H locs hw_18 hP hD hS => ?_)
  obtain ⟨f3, rfl⟩ : ∃ z, z = u_16 := ⟨_, rfl⟩
  have hP : va_P D vwCl [cR h0 qt z qs, cT qt dB f3, cS qs qb p, cB qb dB n g] H := hP
  have hD : va_D A [cR h0 qt z qs, cT qt dB f3, cS qs qb p, cB qb dB n g] := hD
  have hw_18 : ∀ i, zb_byt (f3 i) = if z + 8 ≤ i ∧ i < z + 8 + 4 then zb_in4 w2 (i - (z + 8)) else zb_byt (f2 i) := hw_18
  refine lv_aload_n hx hb dX1_put_49 rfl (lv_at hl 0 rfl) ?_
  refine lv_aload_n hx hb dX1_put_50 rfl (lv_at hl 0 rfl) ?_
  refine va_get (D := D) (ci := 0) (v := .int (nI z)) (C := RX1) (T := TX1) (N := 3) hx hb hts in_X1 hown hK hP 0 rfl rfl 1 (by decide) (hts _ q43) (fun _ h9 => h9) rfl dX1_put_51 ?_
  refine lv_bipush (v := nI 12) hx hb dX1_put_54 (by decide) ?_
  refine lv_iadd hx hb dX1_put_56 ?_
  refine k_is (y := (nI (z + 12))) (nI_add _ _) ?_
  refine lv_iload hx hb dX1_put_57 (lv_at hl 4 rfl) ?_
  refine k_callv (wr := [cS qs qb p, cB qb dB n g]) (w2 := fun (u_19 : Nat → Int32) => [cR h0 qt z qs, cT qt dB u_19, cS qs qb p, cB qb dB n g]) (va_runV (As := [.int (nI (z + 12)), .int w3]) (rest := []) ⟨hx, hb, hml, hown, hts⟩ (m_word l D dB _ h0 qt z qs f3 (z + 12) w3 (by omega)) (cwV 2 hts (lw_V q59 q61 qs0 q4 q62) rfl rfl rfl (by decide +kernel) ⟨Nat.le_of_ble_eq_true rfl, Nat.le_of_ble_eq_true rfl⟩) (k_preV (k_Psub (ws' := [cR h0 qt z qs, cT qt dB f3]) hP [0, 1] rfl) hK (va_D.sub (ws' := [cR h0 qt z qs, cT qt dB f3]) hD [0, 1] (by decide) rfl) 0 0 rfl rfl _) rfl rfl hl.1 rfl (lv_room (Nat.le_of_ble_eq_true rfl)) dX1_put_59 ⟨Nat.le_of_ble_eq_true rfl, Nat.le_of_ble_eq_true rfl⟩) hP hD hS hA [0, 1] [2, 3] [2, 3, 0, 1] rfl rfl (by decide) (by decide) (fun _ => rfl) (by decide) (fun u_19 H locs hw_21 hP hD hS => ?_)
  obtain ⟨f4, rfl⟩ : ∃ z, z = u_19 := ⟨_, rfl⟩
  have hP : va_P D vwCl [cR h0 qt z qs, cT qt dB f4, cS qs qb p, cB qb dB n g] H := hP
  have hD : va_D A [cR h0 qt z qs, cT qt dB f4, cS qs qb p, cB qb dB n g] := hD
  have hw_21 : ∀ i, zb_byt (f4 i) = if z + 12 ≤ i ∧ i < z + 12 + 4 then zb_in4 w3 (i - (z + 12)) else zb_byt (f3 i) := hw_21
  refine lv_aload_n hx hb dX1_put_62 rfl (lv_at hl 0 rfl) ?_
  refine lv_dup hx hb dX1_put_63 rfl ?_
  refine va_get (D := D) (ci := 0) (v := .int (nI z)) (C := RX1) (T := TX1) (N := 3) hx hb hts in_X1 hown hK hP 0 rfl rfl 1 (by decide) (hts _ q43) (fun _ h9 => h9) rfl dX1_put_64 ?_
  refine lv_bipush (v := nI 16) hx hb dX1_put_67 (by decide) ?_
  refine lv_iadd hx hb dX1_put_69 ?_
  refine k_is (y := (nI (z + 16))) (nI_add _ _) ?_
  refine va_put (D := D) (ci := 0) (v := .int (nI (z + 16))) (ty := .int) (C := RX1) (T := TX1) (N := 3) hx hb hts in_X1 tyX1 tyX1_ok nmX1 hown hK hP hD hS 0 rfl rfl 1 (by decide) (hts _ q43) (fun _ h9 => h9) rfl (by decide +kernel) rfl rfl (Nat.le_of_ble_eq_true rfl) dX1_put_70 (fun H locs hP hD hS => ?_)
  have hP : va_P D vwCl [cR h0 qt (z + 16) qs, cT qt dB f4, cS qs qb p, cB qb dB n g] H := hP
  have hD : va_D A [cR h0 qt (z + 16) qs, cT qt dB f4, cS qs qb p, cB qb dB n g] := hD
  refine lv_iconst (v := nI 1) hx hb dX1_put_73 (by decide) ?_
  refine W.widen (k := 0) (n := 0) (Nat.le_of_ble_eq_true rfl) (Nat.le_of_ble_eq_true rfl) ?_
  exact W.zret (v := (nI 1)) hx hb hr rfl (fun t ht hW => ⟨⟨(nI 1), f4, rfl, ⟨rfl, zb_put hw_12 hw_15 hw_18 hw_21⟩, by rw [ht]; exact hP, va_K.moved hW.alike hK, hD⟩, hS.F ht⟩) hS.2.2 dX1_put_74

set_option maxHeartbeats 4000000 in
set_option maxRecDepth 100000 in
/-- put(a, b, c, d) where it does not fit -/
theorem m_putNo (l : Launch) (D : va_G) (dB : ClassId) (sz : Nat) (h0 qt qs qb z : Nat) (f : Nat → Int32) (p n : Nat) (g : Nat → Int32) (w0 w1 w2 w3 : Int32) (hz : 4080 < z) (hz2 : z ≤ 4096) : Met l yX1_put (ws_ yX1_put cX1_put 5 (some .boolean)) ({ frames := 1, cells := 0, slots := 0, locals := 24 }) (k_Pc D [(dB, .byte)] [.ref h0, .int w0, .int w1, .int w2, .int w3] [cR h0 qt z qs, cT qt dB f, cS qs qb p, cB qb dB n g] sz) (va_Qi (fun (r : Int32) (_ : Unit) => r = nI 0) (k_B D [(dB, .byte)] (va_A [cR h0 qt z qs, cT qt dB f, cS qs qb p, cB qb dB n g] sz) (fun (_ : Unit) => [cR h0 qt z qs, cT qt dB f, cS qs qb p, cB qb dB n g])) (va_A [cR h0 qt z qs, cT qt dB f, cS qs qb p, cB qb dB n g] sz)) 0 0 (va_A [cR h0 qt z qs, cT qt dB f, cS qs qb p, cB qb dB n g] sz) := by
  refine Met.ofW (cc := cX1_put) (maxL := 5) (ret := (some .boolean)) (by decide) rfl ?_
  intro pg e s m args below meth c s₁ B hml hv
  obtain ⟨rfl, hsz, hP, hK, hD0⟩ := hv
  have hx := B.exec
  have hb := B.bytes
  have hr := B.returns
  have hts := atoms_spec (ws := (ws_ yX1_put cX1_put 5 (some .boolean))) B.pre
  have hts : ∀ w ∈ lw_all, w.before _ s = true := fun w h => hts w (List.mem_cons_of_mem _ h)
  have hown : s.vm.findClass RX1 = some m.cls := findClass_of_methodNamed B.named
  have hlocks := B.notSynchronized
  subst hsz
  have hD := hD0.self (sz := s.heap.size)
  generalize hAe : va_A [cR h0 qt z qs, cT qt dB f, cS qs qb p, cB qb dB n g] s.heap.size = A at hD ⊢
  have hA : ∀ q : Nat, s.heap.size ≤ q → A q := fun q h => by rw [← hAe]; exact Or.inr h
  have hS : va_S A s.heap s.heap [] := va_S.rf
  have hl := lv_entry ([.ref h0, .int w0, .int w1, .int w2, .int w3]) (n := 5) (Nat.le_of_ble_eq_true rfl)
  rw [lg_entry_eq]
  generalize (lg_sl ([.ref h0, .int w0, .int w1, .int w2, .int w3]) ++ List.replicate (5 - (lg_sl ([.ref h0, .int w0, .int w1, .int w2, .int w3])).length) Slot.unset).toArray = ls at hl ⊢
  have hl : lv_has ls 5 [(0, .ref h0), (1, .int w0), (2, .int w1), (3, .int w2), (4, .int w3)] := hl
  refine lv_aload_n hx hb dX1_put_0 rfl (lv_at hl 0 rfl) ?_
  refine va_get (D := D) (ci := 0) (v := .int (nI z)) (C := RX1) (T := TX1) (N := 3) hx hb hts in_X1 hown hK hP 0 rfl rfl 1 (by decide) (hts _ q43) (fun _ h9 => h9) rfl dX1_put_1 ?_
  refine lv_aload_n hx hb dX1_put_4 rfl (lv_at hl 0 rfl) ?_
  refine va_get (D := D) (ci := 0) (v := .ref qt) (C := RX1) (T := TX1) (N := 3) hx hb hts in_X1 hown hK hP 0 rfl rfl 0 (by decide) (hts _ q42) (fun _ h9 => h9) rfl dX1_put_5 ?_
  refine va_alen (v := nI 4096) hx hb hK hP 1 0 rfl rfl rfl dX1_put_8 ?_
  refine lv_bipush (v := nI 16) hx hb dX1_put_9 (by decide) ?_
  refine lv_isub hx hb dX1_put_11 ?_
  refine k_is (y := (nI (4096 - 16))) (pk_sub (by omega)) ?_
  refine k_le (tgt := 17) hx hb dX1_put_12 (by decide) (by omega) (by omega) (fun c_22 => absurd c_22 (by omega)) (fun c_22 => ?_)
  refine lv_iconst (v := nI 0) hx hb dX1_put_15 (by decide) ?_
  refine W.widen (k := 0) (n := 0) (Nat.le_of_ble_eq_true rfl) (Nat.le_of_ble_eq_true rfl) ?_
  exact W.zret (v := (nI 0)) hx hb hr rfl (fun t ht hW => ⟨⟨(nI 0), (), rfl, rfl, by rw [ht]; exact hP, va_K.moved hW.alike hK, hD⟩, hS.F ht⟩) hS.2.2 dX1_put_16

set_option maxHeartbeats 4000000 in
set_option maxRecDepth 100000 in
/-- from(v) -/
theorem m_from (l : Launch) (D : va_G) (dB : ClassId) (sz : Nat) (h0 qt z qs : Nat) (v : Int32) (hz : z ≤ 4096) : Met l yX1_from (ws_ yX1_from cX1_from 2 (some .int)) ({ frames := 0, cells := 0, slots := 0, locals := 0 }) (k_Pc D [(dB, .byte)] [.ref h0, .int v] [cR h0 qt z qs] sz) (va_Qi (fun (r : Int32) (_ : Unit) => r = nI (v.toBitVec.toNat % 2 ^ 31 % (z + 1))) (k_B D [(dB, .byte)] (va_A [cR h0 qt z qs] sz) (fun (_ : Unit) => [cR h0 qt z qs])) (va_A [cR h0 qt z qs] sz)) 0 0 (va_A [cR h0 qt z qs] sz) := by
  refine Met.ofW (cc := cX1_from) (maxL := 2) (ret := (some .int)) (by decide) rfl ?_
  intro pg e s m args below meth c s₁ B hml hv
  obtain ⟨rfl, hsz, hP, hK, hD0⟩ := hv
  have hx := B.exec
  have hb := B.bytes
  have hr := B.returns
  have hts := atoms_spec (ws := (ws_ yX1_from cX1_from 2 (some .int))) B.pre
  have hts : ∀ w ∈ lw_all, w.before _ s = true := fun w h => hts w (List.mem_cons_of_mem _ h)
  have hown : s.vm.findClass RX1 = some m.cls := findClass_of_methodNamed B.named
  have hlocks := B.notSynchronized
  subst hsz
  have hD := hD0.self (sz := s.heap.size)
  generalize hAe : va_A [cR h0 qt z qs] s.heap.size = A at hD ⊢
  have hA : ∀ q : Nat, s.heap.size ≤ q → A q := fun q h => by rw [← hAe]; exact Or.inr h
  have hS : va_S A s.heap s.heap [] := va_S.rf
  have hl := lv_entry ([.ref h0, .int v]) (n := 2) (Nat.le_of_ble_eq_true rfl)
  rw [lg_entry_eq]
  generalize (lg_sl ([.ref h0, .int v]) ++ List.replicate (2 - (lg_sl ([.ref h0, .int v])).length) Slot.unset).toArray = ls at hl ⊢
  have hl : lv_has ls 2 [(0, .ref h0), (1, .int v)] := hl
  refine lv_iload_n hx hb dX1_from_0 rfl (lv_at hl 1 rfl) ?_
  refine lv_ldc (v := 2147483647) hx hb hown (hts _ q195) dX1_from_1 ?_
  refine lv_iand hx hb dX1_from_3 ?_
  refine k_is (y := (nI (v.toBitVec.toNat % 2 ^ 31))) (pk_and v (m := 2147483647) 31 (by decide)) ?_
  refine lv_aload_n hx hb dX1_from_4 rfl (lv_at hl 0 rfl) ?_
  refine va_get (D := D) (ci := 0) (v := .int (nI z)) (C := RX1) (T := TX1) (N := 3) hx hb hts in_X1 hown hK hP 0 rfl rfl 1 (by decide) (hts _ q43) (fun _ h9 => h9) rfl dX1_from_5 ?_
  refine lv_iconst (v := nI 1) hx hb dX1_from_8 (by decide) ?_
  refine lv_iadd hx hb dX1_from_9 ?_
  refine k_is (y := (nI (z + 1))) (nI_add _ _) ?_
  refine lv_irem hx hb dX1_from_10 (nI_ne0 (by omega) (by omega)) ?_
  refine k_is (y := (nI ((v.toBitVec.toNat % 2 ^ 31) % (z + 1)))) (pk_rem (by omega) (by omega) (by omega)) ?_
  refine k_is (y := (nI (v.toBitVec.toNat % 2 ^ 31 % (z + 1)))) (rfl) ?_
  refine W.widen (k := 0) (n := 0) (Nat.le_of_ble_eq_true rfl) (Nat.le_of_ble_eq_true rfl) ?_
  exact W.iret (v := (nI (v.toBitVec.toNat % 2 ^ 31 % (z + 1)))) hx hb hr (fun t ht hW => ⟨⟨(nI (v.toBitVec.toNat % 2 ^ 31 % (z + 1))), (), rfl, rfl, by rw [ht]; exact hP, va_K.moved hW.alike hK, hD⟩, hS.F ht⟩) hS.2.2 dX1_from_11

set_option maxHeartbeats 4000000 in
set_option maxRecDepth 100000 in
/-- trim(v): what stays is v without its sign bit, modulo the length plus one -/
theorem m_trim (l : Launch) (D : va_G) (dB : ClassId) (sz : Nat) (h0 qt qs qb z : Nat) (f : Nat → Int32) (p n : Nat) (g : Nat → Int32) (v : Int32) (hz : z ≤ 4096) : Met l yX1_trim (ws_ yX1_trim cX1_trim 2 none) ({ frames := 1, cells := 0, slots := 0, locals := 24 }) (k_Pc D [(dB, .byte)] [.ref h0, .int v] [cR h0 qt z qs, cT qt dB f, cS qs qb p, cB qb dB n g] sz) (va_Qv (fun (_ : Unit) => True) (k_B D [(dB, .byte)] (va_A [cR h0 qt z qs, cT qt dB f, cS qs qb p, cB qb dB n g] sz) (fun (_ : Unit) => [cR h0 qt (v.toBitVec.toNat % 2 ^ 31 % (z + 1)) qs, cT qt dB f, cS qs qb p, cB qb dB n g])) (va_A [cR h0 qt z qs, cT qt dB f, cS qs qb p, cB qb dB n g] sz)) 0 0 (va_A [cR h0 qt z qs, cT qt dB f, cS qs qb p, cB qb dB n g] sz) := by
  refine Met.ofW (cc := cX1_trim) (maxL := 2) (ret := none) (by decide) rfl ?_
  intro pg e s m args below meth c s₁ B hml hv
  obtain ⟨rfl, hsz, hP, hK, hD0⟩ := hv
  have hx := B.exec
  have hb := B.bytes
  have hr := B.returns
  have hts := atoms_spec (ws := (ws_ yX1_trim cX1_trim 2 none)) B.pre
  have hts : ∀ w ∈ lw_all, w.before _ s = true := fun w h => hts w (List.mem_cons_of_mem _ h)
  have hown : s.vm.findClass RX1 = some m.cls := findClass_of_methodNamed B.named
  have hlocks := B.notSynchronized
  subst hsz
  have hD := hD0.self (sz := s.heap.size)
  generalize hAe : va_A [cR h0 qt z qs, cT qt dB f, cS qs qb p, cB qb dB n g] s.heap.size = A at hD ⊢
  have hA : ∀ q : Nat, s.heap.size ≤ q → A q := fun q h => by rw [← hAe]; exact Or.inr h
  have hS : va_S A s.heap s.heap [] := va_S.rf
  have hl := lv_entry ([.ref h0, .int v]) (n := 2) (Nat.le_of_ble_eq_true rfl)
  rw [lg_entry_eq]
  generalize (lg_sl ([.ref h0, .int v]) ++ List.replicate (2 - (lg_sl ([.ref h0, .int v])).length) Slot.unset).toArray = ls at hl ⊢
  have hl : lv_has ls 2 [(0, .ref h0), (1, .int v)] := hl
  refine lv_aload_n hx hb dX1_trim_0 rfl (lv_at hl 0 rfl) ?_
  refine lv_aload_n hx hb dX1_trim_1 rfl (lv_at hl 0 rfl) ?_
  refine lv_iload_n hx hb dX1_trim_2 rfl (lv_at hl 1 rfl) ?_
  refine k_calli (wr := [cT qt dB f, cS qs qb p, cB qb dB n g]) (w2 := fun (u_23 : Unit) => [cR h0 qt z qs, cT qt dB f, cS qs qb p, cB qb dB n g]) (va_runV (As := [.int v]) (rest := [.ref h0]) ⟨hx, hb, hml, hown, hts⟩ (m_from l D dB _ h0 qt z qs v hz) (cwV 1 hts (lw_V q191 q193 qs2 q4 q194) rfl rfl rfl (by decide +kernel) ⟨Nat.le_of_ble_eq_true rfl, Nat.le_of_ble_eq_true rfl⟩) (k_preV (k_Psub (ws' := [cR h0 qt z qs]) hP [0] rfl) hK (va_D.sub (ws' := [cR h0 qt z qs]) hD [0] (by decide) rfl) 0 0 rfl rfl _) rfl rfl hl.1 rfl (lv_room (Nat.le_of_ble_eq_true rfl)) dX1_trim_3 ⟨Nat.le_of_ble_eq_true rfl, Nat.le_of_ble_eq_true rfl⟩) hP hD hS hA [0] [1, 2, 3] [3, 0, 1, 2] rfl rfl (by decide) (by decide) (fun _ => rfl) (by decide) (fun r_24 u_23 H locs hw_25 hP hD hS => ?_)
  have hP : va_P D vwCl [cR h0 qt z qs, cT qt dB f, cS qs qb p, cB qb dB n g] H := hP
  have hD : va_D A [cR h0 qt z qs, cT qt dB f, cS qs qb p, cB qb dB n g] := hD
  have hw_25 : r_24 = (nI (v.toBitVec.toNat % 2 ^ 31 % (z + 1))) := hw_25
  subst hw_25
  refine va_put (D := D) (ci := 0) (v := .int (nI (v.toBitVec.toNat % 2 ^ 31 % (z + 1)))) (ty := .int) (C := RX1) (T := TX1) (N := 3) hx hb hts in_X1 tyX1 tyX1_ok nmX1 hown hK hP hD hS 0 rfl rfl 1 (by decide) (hts _ q43) (fun _ h9 => h9) rfl (by decide +kernel) rfl rfl (Nat.le_of_ble_eq_true rfl) dX1_trim_6 (fun H locs hP hD hS => ?_)
  have hP : va_P D vwCl [cR h0 qt (v.toBitVec.toNat % 2 ^ 31 % (z + 1)) qs, cT qt dB f, cS qs qb p, cB qb dB n g] H := hP
  have hD : va_D A [cR h0 qt (v.toBitVec.toNat % 2 ^ 31 % (z + 1)) qs, cT qt dB f, cS qs qb p, cB qb dB n g] := hD
  refine W.widen (k := 0) (n := 0) (Nat.le_of_ble_eq_true rfl) (Nat.le_of_ble_eq_true rfl) ?_
  exact W.vret hx hb hr (fun t ht hW => ⟨⟨(), rfl, trivial, by rw [ht]; exact hP, va_K.moved hW.alike hK, hD⟩, hS.F ht⟩) hS.2.2 dX1_trim_9

set_option maxHeartbeats 4000000 in
set_option maxRecDepth 100000 in
/-- size() -/
theorem m_size (l : Launch) (D : va_G) (dB : ClassId) (sz : Nat) (h0 qt qs qb z : Nat) (f : Nat → Int32) (p n : Nat) (g : Nat → Int32) : Met l yX1_size (ws_ yX1_size cX1_size 1 (some .int)) ({ frames := 0, cells := 0, slots := 0, locals := 0 }) (k_Pc D [(dB, .byte)] [.ref h0] [cR h0 qt z qs, cT qt dB f, cS qs qb p, cB qb dB n g] sz) (va_Qi (fun (r : Int32) (_ : Unit) => r = nI z) (k_B D [(dB, .byte)] (va_A [cR h0 qt z qs, cT qt dB f, cS qs qb p, cB qb dB n g] sz) (fun (_ : Unit) => [cR h0 qt z qs, cT qt dB f, cS qs qb p, cB qb dB n g])) (va_A [cR h0 qt z qs, cT qt dB f, cS qs qb p, cB qb dB n g] sz)) 0 0 (va_A [cR h0 qt z qs, cT qt dB f, cS qs qb p, cB qb dB n g] sz) := by
  refine Met.ofW (cc := cX1_size) (maxL := 1) (ret := (some .int)) (by decide) rfl ?_
  intro pg e s m args below meth c s₁ B hml hv
  obtain ⟨rfl, hsz, hP, hK, hD0⟩ := hv
  have hx := B.exec
  have hb := B.bytes
  have hr := B.returns
  have hts := atoms_spec (ws := (ws_ yX1_size cX1_size 1 (some .int))) B.pre
  have hts : ∀ w ∈ lw_all, w.before _ s = true := fun w h => hts w (List.mem_cons_of_mem _ h)
  have hown : s.vm.findClass RX1 = some m.cls := findClass_of_methodNamed B.named
  have hlocks := B.notSynchronized
  subst hsz
  have hD := hD0.self (sz := s.heap.size)
  generalize hAe : va_A [cR h0 qt z qs, cT qt dB f, cS qs qb p, cB qb dB n g] s.heap.size = A at hD ⊢
  have hA : ∀ q : Nat, s.heap.size ≤ q → A q := fun q h => by rw [← hAe]; exact Or.inr h
  have hS : va_S A s.heap s.heap [] := va_S.rf
  have hl := lv_entry ([.ref h0]) (n := 1) (Nat.le_of_ble_eq_true rfl)
  rw [lg_entry_eq]
  generalize (lg_sl ([.ref h0]) ++ List.replicate (1 - (lg_sl ([.ref h0])).length) Slot.unset).toArray = ls at hl ⊢
  have hl : lv_has ls 1 [(0, .ref h0)] := hl
  refine lv_aload_n hx hb dX1_size_0 rfl (lv_at hl 0 rfl) ?_
  refine va_get (D := D) (ci := 0) (v := .int (nI z)) (C := RX1) (T := TX1) (N := 3) hx hb hts in_X1 hown hK hP 0 rfl rfl 1 (by decide) (hts _ q43) (fun _ h9 => h9) rfl dX1_size_1 ?_
  refine W.widen (k := 0) (n := 0) (Nat.le_of_ble_eq_true rfl) (Nat.le_of_ble_eq_true rfl) ?_
  exact W.iret (v := (nI z)) hx hb hr (fun t ht hW => ⟨⟨(nI z), (), rfl, rfl, by rw [ht]; exact hP, va_K.moved hW.alike hK, hD⟩, hS.F ht⟩) hS.2.2 dX1_size_4

set_option maxHeartbeats 4000000 in
set_option maxRecDepth 100000 in
/-- begin(): a new source over a copy of the text -/
theorem m_begin (l : Launch) (D : va_G) (dB : ClassId) (sz : Nat) (h0 qt qs qb z : Nat) (f : Nat → Int32) (p n : Nat) (g : Nat → Int32) (hz : z ≤ 4096) : Met l yX1_begin (ws_ yX1_begin cX1_begin 3 none) ({ frames := 2, cells := 2, slots := 4099, locals := 50 }) (k_Pc D [(dB, .byte)] [.ref h0] [cR h0 qt z qs, cT qt dB f, cS qs qb p, cB qb dB n g] sz) (va_Qv (fun (u : Nat × Nat × (Nat → Int32)) => ∀ j, j < z → zb_byt (u.2.2 j) = zb_byt (f j)) (k_B D [(dB, .byte)] (va_A [cR h0 qt z qs, cT qt dB f, cS qs qb p, cB qb dB n g] sz) (fun (u : Nat × Nat × (Nat → Int32)) => [cR h0 qt z u.1, cT qt dB f, cS u.1 u.2.1 0, cB u.2.1 dB z u.2.2])) (va_A [cR h0 qt z qs, cT qt dB f, cS qs qb p, cB qb dB n g] sz)) 2 4099 (va_A [cR h0 qt z qs, cT qt dB f, cS qs qb p, cB qb dB n g] sz) := by
  refine Met.ofW (cc := cX1_begin) (maxL := 3) (ret := none) (by decide) rfl ?_
  intro pg e s m args below meth c s₁ B hml hv
  obtain ⟨rfl, hsz, hP, hK, hD0⟩ := hv
  have hx := B.exec
  have hb := B.bytes
  have hr := B.returns
  have hts := atoms_spec (ws := (ws_ yX1_begin cX1_begin 3 none)) B.pre
  have hts : ∀ w ∈ lw_all, w.before _ s = true := fun w h => hts w (List.mem_cons_of_mem _ h)
  have hown : s.vm.findClass RX1 = some m.cls := findClass_of_methodNamed B.named
  have hlocks := B.notSynchronized
  subst hsz
  have hD := hD0.self (sz := s.heap.size)
  generalize hAe : va_A [cR h0 qt z qs, cT qt dB f, cS qs qb p, cB qb dB n g] s.heap.size = A at hD ⊢
  have hA : ∀ q : Nat, s.heap.size ≤ q → A q := fun q h => by rw [← hAe]; exact Or.inr h
  have hS : va_S A s.heap s.heap [] := va_S.rf
  have hl := lv_entry ([.ref h0]) (n := 3) (Nat.le_of_ble_eq_true rfl)
  rw [lg_entry_eq]
  generalize (lg_sl ([.ref h0]) ++ List.replicate (3 - (lg_sl ([.ref h0])).length) Slot.unset).toArray = ls at hl ⊢
  have hl : lv_has ls 3 [(0, .ref h0)] := hl
  refine lv_aload_n hx hb dX1_begin_0 rfl (lv_at hl 0 rfl) ?_
  refine va_get (D := D) (ci := 0) (v := .int (nI z)) (C := RX1) (T := TX1) (N := 3) hx hb hts in_X1 hown hK hP 0 rfl rfl 1 (by decide) (hts _ q43) (fun _ h9 => h9) rfl dX1_begin_1 ?_
  refine va_newa (atype := .byte) (ty := .byte) (a0 := (z, .inl (fun _ => 0))) hx hb (hts _ q41) rfl hK hP hD hS hA (fun _ => rfl) (nI_pos (by omega)) (nI_clamp (by omega)) (by show z * 1 ≤ 536870912; omega) (Nat.le_of_ble_eq_true rfl) (by show 0 + z ≤ 4099; omega) dX1_begin_4 (fun qa_26 dB_27 H hK2 hP hD hS => ?_)
  have edB_27 := k_dB hK2
  subst edB_27
  have hP : va_P D vwCl [cR h0 qt z qs, cT qt dB f, cS qs qb p, cB qb dB n g, cB qa_26 dB z (fun _ => 0)] H := hP
  have hD : va_D A [cR h0 qt z qs, cT qt dB f, cS qs qb p, cB qb dB n g, cB qa_26 dB z (fun _ => 0)] := hD
  refine W.widen (k := 1) (n := 4096) (Nat.le_of_ble_eq_true rfl) (by show 0 + z ≤ 4096; omega) ?_
  have hloop : ∀ (t i : Nat) (h : Nat → Int32), z - i ≤ t → i ≤ z → (∀ j, j < i → zb_byt (h j) = zb_byt (f j)) → ∀ (H : Heap) (locs : List Loc) (ls : Array Slot), va_P D vwCl [cR h0 qt z qs, cT qt dB f, cS qs qb p, cB qb dB n g, cB qa_26 dB z h] H → va_D A [cR h0 qt z qs, cT qt dB f, cS qs qb p, cB qb dB n g, cB qa_26 dB z h] → va_S A s.heap H locs → lv_has ls 3 [(2, .int (nI i)), (1, .ref qa_26), (0, .ref h0)] → W pg l e (headSpec (ws_ yX1_begin cX1_begin 3 none) ({ frames := 2, cells := 2, slots := 4099, locals := 50 })).room s m ([.ref h0] : List Value).toArray below meth c H locs 1 4096 (MQ below (va_Qv (fun (u : Nat × Nat × (Nat → Int32)) => ∀ j, j < z → zb_byt (u.2.2 j) = zb_byt (f j)) (k_B D [(dB, .byte)] A (fun (u : Nat × Nat × (Nat → Int32)) => [cR h0 qt z u.1, cT qt dB f, cS u.1 u.2.1 0, cB u.2.1 dB z u.2.2])) A) ([.ref h0] : List Value).toArray s 2 4099 A) (F0 m 9 ls []) := by
    intro t
    induction t with
    | zero =>
      intro i h ht hi hh H locs ls hP hD hS hl
      refine lv_iload_n hx hb dX1_begin_9 rfl (lv_at hl 0 rfl) ?_
      refine lv_aload_n hx hb dX1_begin_10 rfl (lv_at hl 2 rfl) ?_
      refine va_get (D := D) (ci := 0) (v := .int (nI z)) (C := RX1) (T := TX1) (N := 3) hx hb hts in_X1 hown hK hP 0 rfl rfl 1 (by decide) (hts _ q43) (fun _ h9 => h9) rfl dX1_begin_11 ?_
      refine k_ge (tgt := 32) hx hb dX1_begin_14 (by decide) (by omega) (by omega) (fun c_28 => ?_) (fun c_28 => absurd c_28 (by omega))
      refine lv_aload_n hx hb dX1_begin_32 rfl (lv_at hl 2 rfl) ?_
      refine va_new (ci := 1) (fs := [.null, .int (nI 0), .int (nI 0)]) (C := RX2) (T := TX2) (N := 3) hx hb hts in_X2 tyX2 tyX2_ok hown (hts _ q25) (hts _ q26) (hts _ q5) hK hP hD hS hA rfl (fun j hj => by rcases (show j = 0 ∨ j = 1 ∨ j = 2 by omega) with rfl | rfl | rfl <;> rfl) (Nat.le_of_ble_eq_true rfl) (Nat.le_of_ble_eq_true rfl) dX1_begin_33 (fun qs_29 H hP hD hS => ?_)
      have hP : va_P D vwCl [cR h0 qt z qs, cT qt dB f, cS qs qb p, cB qb dB n g, cB qa_26 dB z h, (qs_29, .inr (1, [.null, .int (nI 0), .int (nI 0)]))] H := hP
      have hD : va_D A [cR h0 qt z qs, cT qt dB f, cS qs qb p, cB qb dB n g, cB qa_26 dB z h, (qs_29, .inr (1, [.null, .int (nI 0), .int (nI 0)]))] := hD
      refine lv_dup hx hb dX1_begin_36 rfl ?_
      refine lv_aload_n hx hb dX1_begin_37 rfl (lv_at hl 1 rfl) ?_
      refine k_callv (wr := [cR h0 qt z qs, cT qt dB f, cS qs qb p, cB qb dB n g, cB qa_26 dB z h]) (w2 := fun (u_30 : Unit) => [cR h0 qt z qs, cT qt dB f, cS qs qb p, cB qb dB n g, cB qa_26 dB z h, cS qs_29 qa_26 0]) (va_runI (As := [.ref qa_26]) (rest := [.ref qs_29, .ref h0]) ⟨hx, hb, hml, hown, hts⟩ (m_sinit l D dB _ qs_29 qa_26) (cwI 1 hts (lw_meth q29) rfl rfl rfl (hts _ q5) (hts _ q27) (hts _ q28) rfl (by decide +kernel) ⟨Nat.le_of_ble_eq_true rfl, Nat.le_of_ble_eq_true rfl⟩) (k_preS (k_Psub (ws' := [(qs_29, .inr (1, [.null, .int (nI 0), .int (nI 0)]))]) hP [5] rfl) hK (va_D.sub (ws' := [(qs_29, .inr (1, [.null, .int (nI 0), .int (nI 0)]))]) hD [5] (by decide) rfl) _) rfl rfl hl.1 rfl (lv_room (Nat.le_of_ble_eq_true rfl)) dX1_begin_38 ⟨Nat.le_of_ble_eq_true rfl, Nat.le_of_ble_eq_true rfl⟩) hP hD hS hA [5] [0, 1, 2, 3, 4] [0, 1, 2, 3, 4, 5] rfl rfl (by decide) (by decide) (fun _ => rfl) (by decide) (fun u_30 H locs hw_32 hP hD hS => ?_)
      have hP : va_P D vwCl [cR h0 qt z qs, cT qt dB f, cS qs qb p, cB qb dB n g, cB qa_26 dB z h, cS qs_29 qa_26 0] H := hP
      have hD : va_D A [cR h0 qt z qs, cT qt dB f, cS qs qb p, cB qb dB n g, cB qa_26 dB z h, cS qs_29 qa_26 0] := hD
      refine va_put (D := D) (ci := 0) (v := .ref qs_29) (ty := .object "BitSource") (C := RX1) (T := TX1) (N := 3) hx hb hts in_X1 tyX1 tyX1_ok nmX1 hown hK hP hD hS 0 rfl rfl 2 (by decide) (hts _ q44) (fun _ h9 => h9) rfl (by decide +kernel) rfl rfl (Nat.le_of_ble_eq_true rfl) dX1_begin_41 (fun H locs hP hD hS => ?_)
      have hP : va_P D vwCl [cR h0 qt z qs_29, cT qt dB f, cS qs qb p, cB qb dB n g, cB qa_26 dB z h, cS qs_29 qa_26 0] H := hP
      have hD : va_D A [cR h0 qt z qs_29, cT qt dB f, cS qs qb p, cB qb dB n g, cB qa_26 dB z h, cS qs_29 qa_26 0] := hD
      have hP := k_Psub (ws' := [cR h0 qt z qs_29, cT qt dB f, cS qs_29 qa_26 0, cB qa_26 dB z h]) hP [0, 1, 5, 4] rfl
      have hD := va_D.sub (ws' := [cR h0 qt z qs_29, cT qt dB f, cS qs_29 qa_26 0, cB qa_26 dB z h]) hD [0, 1, 5, 4] (by decide) rfl
      refine W.widen (k := 2) (n := 4099) (Nat.le_of_ble_eq_true rfl) (Nat.le_of_ble_eq_true rfl) ?_
      exact W.vret hx hb hr (fun t ht hW => ⟨⟨(qs_29, qa_26, h), rfl, fun j hj => hh j (by omega), by rw [ht]; exact hP, va_K.moved hW.alike hK, hD⟩, hS.F ht⟩) hS.2.2 dX1_begin_44
    | succ t ih =>
      intro i h ht hi hh H locs ls hP hD hS hl
      refine lv_iload_n hx hb dX1_begin_9 rfl (lv_at hl 0 rfl) ?_
      refine lv_aload_n hx hb dX1_begin_10 rfl (lv_at hl 2 rfl) ?_
      refine va_get (D := D) (ci := 0) (v := .int (nI z)) (C := RX1) (T := TX1) (N := 3) hx hb hts in_X1 hown hK hP 0 rfl rfl 1 (by decide) (hts _ q43) (fun _ h9 => h9) rfl dX1_begin_11 ?_
      refine k_ge (tgt := 32) hx hb dX1_begin_14 (by decide) (by omega) (by omega) (fun cl => ?_) (fun cl => ?_)
      · refine lv_aload_n hx hb dX1_begin_32 rfl (lv_at hl 2 rfl) ?_
        refine va_new (ci := 1) (fs := [.null, .int (nI 0), .int (nI 0)]) (C := RX2) (T := TX2) (N := 3) hx hb hts in_X2 tyX2 tyX2_ok hown (hts _ q25) (hts _ q26) (hts _ q5) hK hP hD hS hA rfl (fun j hj => by rcases (show j = 0 ∨ j = 1 ∨ j = 2 by omega) with rfl | rfl | rfl <;> rfl) (Nat.le_of_ble_eq_true rfl) (Nat.le_of_ble_eq_true rfl) dX1_begin_33 (fun qs_33 H hP hD hS => ?_)
        have hP : va_P D vwCl [cR h0 qt z qs, cT qt dB f, cS qs qb p, cB qb dB n g, cB qa_26 dB z h, (qs_33, .inr (1, [.null, .int (nI 0), .int (nI 0)]))] H := hP
        have hD : va_D A [cR h0 qt z qs, cT qt dB f, cS qs qb p, cB qb dB n g, cB qa_26 dB z h, (qs_33, .inr (1, [.null, .int (nI 0), .int (nI 0)]))] := hD
        refine lv_dup hx hb dX1_begin_36 rfl ?_
        refine lv_aload_n hx hb dX1_begin_37 rfl (lv_at hl 1 rfl) ?_
        refine k_callv (wr := [cR h0 qt z qs, cT qt dB f, cS qs qb p, cB qb dB n g, cB qa_26 dB z h]) (w2 := fun (u_34 : Unit) => [cR h0 qt z qs, cT qt dB f, cS qs qb p, cB qb dB n g, cB qa_26 dB z h, cS qs_33 qa_26 0]) (va_runI (As := [.ref qa_26]) (rest := [.ref qs_33, .ref h0]) ⟨hx, hb, hml, hown, hts⟩ (m_sinit l D dB _ qs_33 qa_26) (cwI 1 hts (lw_meth q29) rfl rfl rfl (hts _ q5) (hts _ q27) (hts _ q28) rfl (by decide +kernel) ⟨Nat.le_of_ble_eq_true rfl, Nat.le_of_ble_eq_true rfl⟩) (k_preS (k_Psub (ws' := [(qs_33, .inr (1, [.null, .int (nI 0), .int (nI 0)]))]) hP [5] rfl) hK (va_D.sub (ws' := [(qs_33, .inr (1, [.null, .int (nI 0), .int (nI 0)]))]) hD [5] (by decide) rfl) _) rfl rfl hl.1 rfl (lv_room (Nat.le_of_ble_eq_true rfl)) dX1_begin_38 ⟨Nat.le_of_ble_eq_true rfl, Nat.le_of_ble_eq_true rfl⟩) hP hD hS hA [5] [0, 1, 2, 3, 4] [0, 1, 2, 3, 4, 5] rfl rfl (by decide) (by decide) (fun _ => rfl) (by decide) (fun u_34 H locs hw_36 hP hD hS => ?_)
        have hP : va_P D vwCl [cR h0 qt z qs, cT qt dB f, cS qs qb p, cB qb dB n g, cB qa_26 dB z h, cS qs_33 qa_26 0] H := hP
        have hD : va_D A [cR h0 qt z qs, cT qt dB f, cS qs qb p, cB qb dB n g, cB qa_26 dB z h, cS qs_33 qa_26 0] := hD
        refine va_put (D := D) (ci := 0) (v := .ref qs_33) (ty := .object "BitSource") (C := RX1) (T := TX1) (N := 3) hx hb hts in_X1 tyX1 tyX1_ok nmX1 hown hK hP hD hS 0 rfl rfl 2 (by decide) (hts _ q44) (fun _ h9 => h9) rfl (by decide +kernel) rfl rfl (Nat.le_of_ble_eq_true rfl) dX1_begin_41 (fun H locs hP hD hS => ?_)
        have hP : va_P D vwCl [cR h0 qt z qs_33, cT qt dB f, cS qs qb p, cB qb dB n g, cB qa_26 dB z h, cS qs_33 qa_26 0] H := hP
        have hD : va_D A [cR h0 qt z qs_33, cT qt dB f, cS qs qb p, cB qb dB n g, cB qa_26 dB z h, cS qs_33 qa_26 0] := hD
        have hP := k_Psub (ws' := [cR h0 qt z qs_33, cT qt dB f, cS qs_33 qa_26 0, cB qa_26 dB z h]) hP [0, 1, 5, 4] rfl
        have hD := va_D.sub (ws' := [cR h0 qt z qs_33, cT qt dB f, cS qs_33 qa_26 0, cB qa_26 dB z h]) hD [0, 1, 5, 4] (by decide) rfl
        refine W.widen (k := 2) (n := 4099) (Nat.le_of_ble_eq_true rfl) (Nat.le_of_ble_eq_true rfl) ?_
        exact W.vret hx hb hr (fun t ht hW => ⟨⟨(qs_33, qa_26, h), rfl, fun j hj => hh j (by omega), by rw [ht]; exact hP, va_K.moved hW.alike hK, hD⟩, hS.F ht⟩) hS.2.2 dX1_begin_44
      · refine lv_aload_n hx hb dX1_begin_17 rfl (lv_at hl 1 rfl) ?_
        refine lv_iload_n hx hb dX1_begin_18 rfl (lv_at hl 0 rfl) ?_
        refine lv_aload_n hx hb dX1_begin_19 rfl (lv_at hl 2 rfl) ?_
        refine va_get (D := D) (ci := 0) (v := .ref qt) (C := RX1) (T := TX1) (N := 3) hx hb hts in_X1 hown hK hP 0 rfl rfl 0 (by decide) (hts _ q42) (fun _ h9 => h9) rfl dX1_begin_20 ?_
        refine lv_iload_n hx hb dX1_begin_23 rfl (lv_at hl 0 rfl) ?_
        refine va_bald hx hb hK hP 1 0 rfl rfl (vp_in_nI (by omega) (by omega)) dX1_begin_24 ?_
        refine k_is (y := (f i)) (congrArg f (nI_clamp (by omega))) ?_
        refine va_bast hx hb hK hP hD hS 4 0 rfl rfl (vp_in_nI (by omega) (by omega)) dX1_begin_25 (fun H locs hP hD hS => ?_)
        rw [nI_clamp (n := i) (by omega)] at hP hD
        have hP : va_P D vwCl [cR h0 qt z qs, cT qt dB f, cS qs qb p, cB qb dB n g, cB qa_26 dB z (upd h i (vp_nar .byte (f i)))] H := hP
        have hD : va_D A [cR h0 qt z qs, cT qt dB f, cS qs qb p, cB qb dB n g, cB qa_26 dB z (upd h i (vp_nar .byte (f i)))] := hD
        refine lv_iinc (v := (nI (i + 1))) (lv' := [(2, .int (nI (i + 1))), (1, .ref qa_26), (0, .ref h0)]) hx hb dX1_begin_26 hl (k := 0) rfl (nI_add i 1) (by decide) rfl (fun ls hl => ?_)
        refine lv_goto (tgt := 9) hx hb dX1_begin_29 (by decide) ?_
        refine ih (i + 1) _ (by omega) (by omega) (fun j hj => ?_) H locs ls hP hD hS (lv_sub hl [0, 1, 2] rfl)
        by_cases cj : j = i
        · subst cj; rw [pk_us, zb_byt_nar]
        · rw [pk_un cj]; exact hh j (by omega)
  refine lv_astore_n (lv' := [(1, .ref qa_26), (0, .ref h0)]) hx hb dX1_begin_6 rfl hl (by decide) rfl (fun ls hl => ?_)
  refine lv_iconst (v := nI 0) hx hb dX1_begin_7 (by decide) ?_
  refine lv_istore_n (lv' := [(2, .int (nI 0)), (1, .ref qa_26), (0, .ref h0)]) hx hb dX1_begin_8 rfl hl (by decide) rfl (fun ls hl => ?_)
  exact hloop z 0 (fun _ => 0) (Nat.sub_le _ _) (Nat.zero_le _) (fun j hj => absurd hj (Nat.not_lt_zero j)) H _ ls hP hD hS (lv_sub hl [0, 1, 2] rfl)

set_option maxHeartbeats 4000000 in
set_option maxRecDepth 100000 in
/-- left() -/
theorem m_left (l : Launch) (D : va_G) (dB : ClassId) (sz : Nat) (h0 qt qs qb z : Nat) (f : Nat → Int32) (p n : Nat) (g : Nat → Int32) (hn : n ≤ 4096) (hp : p ≤ 8 * n) : Met l yX1_left (ws_ yX1_left cX1_left 1 (some .int)) ({ frames := 1, cells := 0, slots := 0, locals := 24 }) (k_Pc D [(dB, .byte)] [.ref h0] [cR h0 qt z qs, cT qt dB f, cS qs qb p, cB qb dB n g] sz) (va_Qi (fun (r : Int32) (_ : Unit) => r = nI (8 * n - p)) (k_B D [(dB, .byte)] (va_A [cR h0 qt z qs, cT qt dB f, cS qs qb p, cB qb dB n g] sz) (fun (_ : Unit) => [cR h0 qt z qs, cT qt dB f, cS qs qb p, cB qb dB n g])) (va_A [cR h0 qt z qs, cT qt dB f, cS qs qb p, cB qb dB n g] sz)) 0 0 (va_A [cR h0 qt z qs, cT qt dB f, cS qs qb p, cB qb dB n g] sz) := by
  refine Met.ofW (cc := cX1_left) (maxL := 1) (ret := (some .int)) (by decide) rfl ?_
  intro pg e s m args below meth c s₁ B hml hv
  obtain ⟨rfl, hsz, hP, hK, hD0⟩ := hv
  have hx := B.exec
  have hb := B.bytes
  have hr := B.returns
  have hts := atoms_spec (ws := (ws_ yX1_left cX1_left 1 (some .int))) B.pre
  have hts : ∀ w ∈ lw_all, w.before _ s = true := fun w h => hts w (List.mem_cons_of_mem _ h)
  have hown : s.vm.findClass RX1 = some m.cls := findClass_of_methodNamed B.named
  have hlocks := B.notSynchronized
  subst hsz
  have hD := hD0.self (sz := s.heap.size)
  generalize hAe : va_A [cR h0 qt z qs, cT qt dB f, cS qs qb p, cB qb dB n g] s.heap.size = A at hD ⊢
  have hA : ∀ q : Nat, s.heap.size ≤ q → A q := fun q h => by rw [← hAe]; exact Or.inr h
  have hS : va_S A s.heap s.heap [] := va_S.rf
  have hl := lv_entry ([.ref h0]) (n := 1) (Nat.le_of_ble_eq_true rfl)
  rw [lg_entry_eq]
  generalize (lg_sl ([.ref h0]) ++ List.replicate (1 - (lg_sl ([.ref h0])).length) Slot.unset).toArray = ls at hl ⊢
  have hl : lv_has ls 1 [(0, .ref h0)] := hl
  refine lv_aload_n hx hb dX1_left_0 rfl (lv_at hl 0 rfl) ?_
  refine va_get (D := D) (ci := 0) (v := .ref qs) (C := RX1) (T := TX1) (N := 3) hx hb hts in_X1 hown hK hP 0 rfl rfl 2 (by decide) (hts _ q44) (fun _ h9 => h9) rfl dX1_left_1 ?_
  refine k_calli (wr := [cR h0 qt z qs, cT qt dB f]) (w2 := fun (u_37 : Unit) => [cR h0 qt z qs, cT qt dB f, cS qs qb p, cB qb dB n g]) (va_runV (As := []) (rest := []) ⟨hx, hb, hml, hown, hts⟩ (m_avail l D dB _ qs qb p n g hn hp) (cwV 0 hts (lw_V q71 q72 q73 q5 q74) rfl rfl rfl (by decide +kernel) ⟨Nat.le_of_ble_eq_true rfl, Nat.le_of_ble_eq_true rfl⟩) (k_preV (k_Psub (ws' := [cS qs qb p, cB qb dB n g]) hP [2, 3] rfl) hK (va_D.sub (ws' := [cS qs qb p, cB qb dB n g]) hD [2, 3] (by decide) rfl) 1 0 rfl rfl _) rfl rfl hl.1 rfl (lv_room (Nat.le_of_ble_eq_true rfl)) dX1_left_4 ⟨Nat.le_of_ble_eq_true rfl, Nat.le_of_ble_eq_true rfl⟩) hP hD hS hA [2, 3] [0, 1] [0, 1, 2, 3] rfl rfl (by decide) (by decide) (fun _ => rfl) (by decide) (fun r_38 u_37 H locs hw_39 hP hD hS => ?_)
  have hP : va_P D vwCl [cR h0 qt z qs, cT qt dB f, cS qs qb p, cB qb dB n g] H := hP
  have hD : va_D A [cR h0 qt z qs, cT qt dB f, cS qs qb p, cB qb dB n g] := hD
  have hw_39 : r_38 = (nI (8 * n - p)) := hw_39
  subst hw_39
  refine W.widen (k := 0) (n := 0) (Nat.le_of_ble_eq_true rfl) (Nat.le_of_ble_eq_true rfl) ?_
  exact W.iret (v := (nI (8 * n - p))) hx hb hr (fun t ht hW => ⟨⟨(nI (8 * n - p)), (), rfl, rfl, by rw [ht]; exact hP, va_K.moved hW.alike hK, hD⟩, hS.F ht⟩) hS.2.2 dX1_left_7

set_option maxHeartbeats 4000000 in
set_option maxRecDepth 100000 in
/-- octet() -/
theorem m_octet (l : Launch) (D : va_G) (dB : ClassId) (sz : Nat) (h0 qt qs qb z : Nat) (f : Nat → Int32) (p n : Nat) (g : Nat → Int32) : Met l yX1_octet (ws_ yX1_octet cX1_octet 1 (some .int)) ({ frames := 1, cells := 0, slots := 0, locals := 24 }) (k_Pc D [(dB, .byte)] [.ref h0] [cR h0 qt z qs, cT qt dB f, cS qs qb p, cB qb dB n g] sz) (va_Qi (fun (r : Int32) (_ : Unit) => r = nI (p / 8)) (k_B D [(dB, .byte)] (va_A [cR h0 qt z qs, cT qt dB f, cS qs qb p, cB qb dB n g] sz) (fun (_ : Unit) => [cR h0 qt z qs, cT qt dB f, cS qs qb p, cB qb dB n g])) (va_A [cR h0 qt z qs, cT qt dB f, cS qs qb p, cB qb dB n g] sz)) 0 0 (va_A [cR h0 qt z qs, cT qt dB f, cS qs qb p, cB qb dB n g] sz) := by
  refine Met.ofW (cc := cX1_octet) (maxL := 1) (ret := (some .int)) (by decide) rfl ?_
  intro pg e s m args below meth c s₁ B hml hv
  obtain ⟨rfl, hsz, hP, hK, hD0⟩ := hv
  have hx := B.exec
  have hb := B.bytes
  have hr := B.returns
  have hts := atoms_spec (ws := (ws_ yX1_octet cX1_octet 1 (some .int))) B.pre
  have hts : ∀ w ∈ lw_all, w.before _ s = true := fun w h => hts w (List.mem_cons_of_mem _ h)
  have hown : s.vm.findClass RX1 = some m.cls := findClass_of_methodNamed B.named
  have hlocks := B.notSynchronized
  subst hsz
  have hD := hD0.self (sz := s.heap.size)
  generalize hAe : va_A [cR h0 qt z qs, cT qt dB f, cS qs qb p, cB qb dB n g] s.heap.size = A at hD ⊢
  have hA : ∀ q : Nat, s.heap.size ≤ q → A q := fun q h => by rw [← hAe]; exact Or.inr h
  have hS : va_S A s.heap s.heap [] := va_S.rf
  have hl := lv_entry ([.ref h0]) (n := 1) (Nat.le_of_ble_eq_true rfl)
  rw [lg_entry_eq]
  generalize (lg_sl ([.ref h0]) ++ List.replicate (1 - (lg_sl ([.ref h0])).length) Slot.unset).toArray = ls at hl ⊢
  have hl : lv_has ls 1 [(0, .ref h0)] := hl
  refine lv_aload_n hx hb dX1_octet_0 rfl (lv_at hl 0 rfl) ?_
  refine va_get (D := D) (ci := 0) (v := .ref qs) (C := RX1) (T := TX1) (N := 3) hx hb hts in_X1 hown hK hP 0 rfl rfl 2 (by decide) (hts _ q44) (fun _ h9 => h9) rfl dX1_octet_1 ?_
  refine k_calli (wr := [cR h0 qt z qs, cT qt dB f, cB qb dB n g]) (w2 := fun (u_40 : Unit) => [cR h0 qt z qs, cT qt dB f, cS qs qb p, cB qb dB n g]) (va_runV (As := []) (rest := []) ⟨hx, hb, hml, hown, hts⟩ (m_boff l D dB _ qs qb p) (cwV 0 hts (lw_V q159 q160 q161 q5 q162) rfl rfl rfl (by decide +kernel) ⟨Nat.le_of_ble_eq_true rfl, Nat.le_of_ble_eq_true rfl⟩) (k_preV (k_Psub (ws' := [cS qs qb p]) hP [2] rfl) hK (va_D.sub (ws' := [cS qs qb p]) hD [2] (by decide) rfl) 1 0 rfl rfl _) rfl rfl hl.1 rfl (lv_room (Nat.le_of_ble_eq_true rfl)) dX1_octet_4 ⟨Nat.le_of_ble_eq_true rfl, Nat.le_of_ble_eq_true rfl⟩) hP hD hS hA [2] [0, 1, 3] [0, 1, 3, 2] rfl rfl (by decide) (by decide) (fun _ => rfl) (by decide) (fun r_41 u_40 H locs hw_42 hP hD hS => ?_)
  have hP : va_P D vwCl [cR h0 qt z qs, cT qt dB f, cS qs qb p, cB qb dB n g] H := hP
  have hD : va_D A [cR h0 qt z qs, cT qt dB f, cS qs qb p, cB qb dB n g] := hD
  have hw_42 : r_41 = (nI (p / 8)) := hw_42
  subst hw_42
  refine W.widen (k := 0) (n := 0) (Nat.le_of_ble_eq_true rfl) (Nat.le_of_ble_eq_true rfl) ?_
  exact W.iret (v := (nI (p / 8))) hx hb hr (fun t ht hW => ⟨⟨(nI (p / 8)), (), rfl, rfl, by rw [ht]; exact hP, va_K.moved hW.alike hK, hD⟩, hS.F ht⟩) hS.2.2 dX1_octet_7

set_option maxHeartbeats 4000000 in
set_option maxRecDepth 100000 in
/-- bit() -/
theorem m_bits (l : Launch) (D : va_G) (dB : ClassId) (sz : Nat) (h0 qt qs qb z : Nat) (f : Nat → Int32) (p n : Nat) (g : Nat → Int32) : Met l yX1_bit (ws_ yX1_bit cX1_bit 1 (some .int)) ({ frames := 1, cells := 0, slots := 0, locals := 24 }) (k_Pc D [(dB, .byte)] [.ref h0] [cR h0 qt z qs, cT qt dB f, cS qs qb p, cB qb dB n g] sz) (va_Qi (fun (r : Int32) (_ : Unit) => r = nI (p % 8)) (k_B D [(dB, .byte)] (va_A [cR h0 qt z qs, cT qt dB f, cS qs qb p, cB qb dB n g] sz) (fun (_ : Unit) => [cR h0 qt z qs, cT qt dB f, cS qs qb p, cB qb dB n g])) (va_A [cR h0 qt z qs, cT qt dB f, cS qs qb p, cB qb dB n g] sz)) 0 0 (va_A [cR h0 qt z qs, cT qt dB f, cS qs qb p, cB qb dB n g] sz) := by
  refine Met.ofW (cc := cX1_bit) (maxL := 1) (ret := (some .int)) (by decide) rfl ?_
  intro pg e s m args below meth c s₁ B hml hv
  obtain ⟨rfl, hsz, hP, hK, hD0⟩ := hv
  have hx := B.exec
  have hb := B.bytes
  have hr := B.returns
  have hts := atoms_spec (ws := (ws_ yX1_bit cX1_bit 1 (some .int))) B.pre
  have hts : ∀ w ∈ lw_all, w.before _ s = true := fun w h => hts w (List.mem_cons_of_mem _ h)
  have hown : s.vm.findClass RX1 = some m.cls := findClass_of_methodNamed B.named
  have hlocks := B.notSynchronized
  subst hsz
  have hD := hD0.self (sz := s.heap.size)
  generalize hAe : va_A [cR h0 qt z qs, cT qt dB f, cS qs qb p, cB qb dB n g] s.heap.size = A at hD ⊢
  have hA : ∀ q : Nat, s.heap.size ≤ q → A q := fun q h => by rw [← hAe]; exact Or.inr h
  have hS : va_S A s.heap s.heap [] := va_S.rf
  have hl := lv_entry ([.ref h0]) (n := 1) (Nat.le_of_ble_eq_true rfl)
  rw [lg_entry_eq]
  generalize (lg_sl ([.ref h0]) ++ List.replicate (1 - (lg_sl ([.ref h0])).length) Slot.unset).toArray = ls at hl ⊢
  have hl : lv_has ls 1 [(0, .ref h0)] := hl
  refine lv_aload_n hx hb dX1_bit_0 rfl (lv_at hl 0 rfl) ?_
  refine va_get (D := D) (ci := 0) (v := .ref qs) (C := RX1) (T := TX1) (N := 3) hx hb hts in_X1 hown hK hP 0 rfl rfl 2 (by decide) (hts _ q44) (fun _ h9 => h9) rfl dX1_bit_1 ?_
  refine k_calli (wr := [cR h0 qt z qs, cT qt dB f, cB qb dB n g]) (w2 := fun (u_43 : Unit) => [cR h0 qt z qs, cT qt dB f, cS qs qb p, cB qb dB n g]) (va_runV (As := []) (rest := []) ⟨hx, hb, hml, hown, hts⟩ (m_bit l D dB _ qs qb p) (cwV 0 hts (lw_V q167 q168 q169 q5 q170) rfl rfl rfl (by decide +kernel) ⟨Nat.le_of_ble_eq_true rfl, Nat.le_of_ble_eq_true rfl⟩) (k_preV (k_Psub (ws' := [cS qs qb p]) hP [2] rfl) hK (va_D.sub (ws' := [cS qs qb p]) hD [2] (by decide) rfl) 1 0 rfl rfl _) rfl rfl hl.1 rfl (lv_room (Nat.le_of_ble_eq_true rfl)) dX1_bit_4 ⟨Nat.le_of_ble_eq_true rfl, Nat.le_of_ble_eq_true rfl⟩) hP hD hS hA [2] [0, 1, 3] [0, 1, 3, 2] rfl rfl (by decide) (by decide) (fun _ => rfl) (by decide) (fun r_44 u_43 H locs hw_45 hP hD hS => ?_)
  have hP : va_P D vwCl [cR h0 qt z qs, cT qt dB f, cS qs qb p, cB qb dB n g] H := hP
  have hD : va_D A [cR h0 qt z qs, cT qt dB f, cS qs qb p, cB qb dB n g] := hD
  have hw_45 : r_44 = (nI (p % 8)) := hw_45
  subst hw_45
  refine W.widen (k := 0) (n := 0) (Nat.le_of_ble_eq_true rfl) (Nat.le_of_ble_eq_true rfl) ?_
  exact W.iret (v := (nI (p % 8))) hx hb hr (fun t ht hW => ⟨⟨(nI (p % 8)), (), rfl, rfl, by rw [ht]; exact hP, va_K.moved hW.alike hK, hD⟩, hS.F ht⟩) hS.2.2 dX1_bit_7

set_option maxHeartbeats 4000000 in
set_option maxRecDepth 100000 in
/-- read(v) where enough is left: the number of the next k bits, with its sign where k is 32 -/
theorem m_rd (l : Launch) (D : va_G) (dB : ClassId) (sz : Nat) (h0 qt qs qb z : Nat) (f : Nat → Int32) (p n : Nat) (g : Nat → Int32) (v : Int32) (k : Nat) (hk : v.toBitVec.toNat % 32 + 1 = k) (hn : n ≤ 4096) (hp : p + k ≤ 8 * n) : Met l yX1_read (ws_ yX1_read cX1_read 3 (some .long)) ({ frames := 2, cells := 0, slots := 0, locals := 50 }) (k_Pc D [(dB, .byte)] [.ref h0, .int v] [cR h0 qt z qs, cT qt dB f, cS qs qb p, cB qb dB n g] sz) (va_Ql (fun (r : Int64) (_ : Unit) => r = (nI (zb_num (fun i => zb_byt (g i)) p k)).toInt64) (k_B D [(dB, .byte)] (va_A [cR h0 qt z qs, cT qt dB f, cS qs qb p, cB qb dB n g] sz) (fun (_ : Unit) => [cR h0 qt z qs, cT qt dB f, cS qs qb (p + k), cB qb dB n g])) (va_A [cR h0 qt z qs, cT qt dB f, cS qs qb p, cB qb dB n g] sz)) 0 0 (va_A [cR h0 qt z qs, cT qt dB f, cS qs qb p, cB qb dB n g] sz) := by
  refine Met.ofW (cc := cX1_read) (maxL := 3) (ret := (some .long)) (by decide) rfl ?_
  intro pg e s m args below meth c s₁ B hml hv
  obtain ⟨rfl, hsz, hP, hK, hD0⟩ := hv
  have hx := B.exec
  have hb := B.bytes
  have hr := B.returns
  have hts := atoms_spec (ws := (ws_ yX1_read cX1_read 3 (some .long))) B.pre
  have hts : ∀ w ∈ lw_all, w.before _ s = true := fun w h => hts w (List.mem_cons_of_mem _ h)
  have hown : s.vm.findClass RX1 = some m.cls := findClass_of_methodNamed B.named
  have hlocks := B.notSynchronized
  subst hsz
  have hD := hD0.self (sz := s.heap.size)
  generalize hAe : va_A [cR h0 qt z qs, cT qt dB f, cS qs qb p, cB qb dB n g] s.heap.size = A at hD ⊢
  have hA : ∀ q : Nat, s.heap.size ≤ q → A q := fun q h => by rw [← hAe]; exact Or.inr h
  have hS : va_S A s.heap s.heap [] := va_S.rf
  have hl := lv_entry ([.ref h0, .int v]) (n := 3) (Nat.le_of_ble_eq_true rfl)
  rw [lg_entry_eq]
  generalize (lg_sl ([.ref h0, .int v]) ++ List.replicate (3 - (lg_sl ([.ref h0, .int v])).length) Slot.unset).toArray = ls at hl ⊢
  have hl : lv_has ls 3 [(0, .ref h0), (1, .int v)] := hl
  refine lv_iconst (v := nI 1) hx hb dX1_read_0 (by decide) ?_
  refine lv_iload_n hx hb dX1_read_1 rfl (lv_at hl 1 rfl) ?_
  refine lv_bipush (v := nI 31) hx hb dX1_read_2 (by decide) ?_
  refine lv_iand hx hb dX1_read_4 ?_
  refine k_is (y := (nI (v.toBitVec.toNat % 2 ^ 5))) (pk_and v (m := nI 31) 5 (by decide)) ?_
  refine lv_iadd hx hb dX1_read_5 ?_
  refine k_is (y := (nI (1 + (v.toBitVec.toNat % 2 ^ 5)))) (nI_add _ _) ?_
  refine k_is (y := (nI k)) (congrArg nI (by omega)) ?_
  refine lv_istore_n (lv' := [(2, .int (nI k)), (0, .ref h0), (1, .int v)]) hx hb dX1_read_6 rfl hl (by decide) rfl (fun ls hl => ?_)
  refine lv_iload_n hx hb dX1_read_7 rfl (lv_at hl 0 rfl) ?_
  refine lv_aload_n hx hb dX1_read_8 rfl (lv_at hl 1 rfl) ?_
  refine va_get (D := D) (ci := 0) (v := .ref qs) (C := RX1) (T := TX1) (N := 3) hx hb hts in_X1 hown hK hP 0 rfl rfl 2 (by decide) (hts _ q44) (fun _ h9 => h9) rfl dX1_read_9 ?_
  refine k_calli (wr := [cR h0 qt z qs, cT qt dB f]) (w2 := fun (u_46 : Unit) => [cR h0 qt z qs, cT qt dB f, cS qs qb p, cB qb dB n g]) (va_runV (As := []) (rest := [.int (nI k)]) ⟨hx, hb, hml, hown, hts⟩ (m_avail l D dB _ qs qb p n g hn (by omega)) (cwV 0 hts (lw_V q71 q72 q73 q5 q74) rfl rfl rfl (by decide +kernel) ⟨Nat.le_of_ble_eq_true rfl, Nat.le_of_ble_eq_true rfl⟩) (k_preV (k_Psub (ws' := [cS qs qb p, cB qb dB n g]) hP [2, 3] rfl) hK (va_D.sub (ws' := [cS qs qb p, cB qb dB n g]) hD [2, 3] (by decide) rfl) 1 0 rfl rfl _) rfl rfl hl.1 rfl (lv_room (Nat.le_of_ble_eq_true rfl)) dX1_read_12 ⟨Nat.le_of_ble_eq_true rfl, Nat.le_of_ble_eq_true rfl⟩) hP hD hS hA [2, 3] [0, 1] [0, 1, 2, 3] rfl rfl (by decide) (by decide) (fun _ => rfl) (by decide) (fun r_47 u_46 H locs hw_48 hP hD hS => ?_)
  have hP : va_P D vwCl [cR h0 qt z qs, cT qt dB f, cS qs qb p, cB qb dB n g] H := hP
  have hD : va_D A [cR h0 qt z qs, cT qt dB f, cS qs qb p, cB qb dB n g] := hD
  have hw_48 : r_47 = (nI (8 * n - p)) := hw_48
  subst hw_48
  refine k_le (tgt := 24) hx hb dX1_read_15 (by decide) (by omega) (by omega) (fun c_49 => ?_) (fun c_49 => absurd c_49 (by omega))
  refine lv_aload_n hx hb dX1_read_24 rfl (lv_at hl 1 rfl) ?_
  refine va_get (D := D) (ci := 0) (v := .ref qs) (C := RX1) (T := TX1) (N := 3) hx hb hts in_X1 hown hK hP 0 rfl rfl 2 (by decide) (hts _ q44) (fun _ h9 => h9) rfl dX1_read_25 ?_
  refine lv_iload_n hx hb dX1_read_28 rfl (lv_at hl 0 rfl) ?_
  refine k_calli (wr := [cR h0 qt z qs, cT qt dB f]) (w2 := fun (u_50 : Unit) => [cR h0 qt z qs, cT qt dB f, cS qs qb (p + k), cB qb dB n g]) (va_runV (As := [.int (nI k)]) (rest := []) ⟨hx, hb, hml, hown, hts⟩ (m_read l D dB _ qs qb p n g k hn (by omega) (by omega) hp) (cwV 1 hts (lw_V q76 q77 q78 q5 q79) rfl rfl rfl (by decide +kernel) ⟨Nat.le_of_ble_eq_true rfl, Nat.le_of_ble_eq_true rfl⟩) (k_preV (k_Psub (ws' := [cS qs qb p, cB qb dB n g]) hP [2, 3] rfl) hK (va_D.sub (ws' := [cS qs qb p, cB qb dB n g]) hD [2, 3] (by decide) rfl) 1 0 rfl rfl _) rfl rfl hl.1 rfl (lv_room (Nat.le_of_ble_eq_true rfl)) dX1_read_29 ⟨Nat.le_of_ble_eq_true rfl, Nat.le_of_ble_eq_true rfl⟩) hP hD hS hA [2, 3] [0, 1] [0, 1, 2, 3] rfl rfl (by decide) (by decide) (fun _ => rfl) (by decide) (fun r_51 u_50 H locs hw_52 hP hD hS => ?_)
  have hP : va_P D vwCl [cR h0 qt z qs, cT qt dB f, cS qs qb (p + k), cB qb dB n g] H := hP
  have hD : va_D A [cR h0 qt z qs, cT qt dB f, cS qs qb (p + k), cB qb dB n g] := hD
  have hw_52 : r_51 = (nI (zb_num (fun i => zb_byt (g i)) p k)) := hw_52
  subst hw_52
  refine lv_i2l hx hb dX1_read_32 rfl ?_
  refine W.widen (k := 0) (n := 0) (Nat.le_of_ble_eq_true rfl) (Nat.le_of_ble_eq_true rfl) ?_
  exact W.lret (v := ((nI (zb_num (fun i => zb_byt (g i)) p k)).toInt64)) hx hb hr (fun t ht hW => ⟨⟨((nI (zb_num (fun i => zb_byt (g i)) p k)).toInt64), (), rfl, rfl, by rw [ht]; exact hP, va_K.moved hW.alike hK, hD⟩, hS.F ht⟩) hS.2.2 dX1_read_33

set_option maxHeartbeats 4000000 in
set_option maxRecDepth 100000 in
/-- read(v) where too little is left -/
theorem m_rdNo (l : Launch) (D : va_G) (dB : ClassId) (sz : Nat) (h0 qt qs qb z : Nat) (f : Nat → Int32) (p n : Nat) (g : Nat → Int32) (v : Int32) (k : Nat) (hk : v.toBitVec.toNat % 32 + 1 = k) (hn : n ≤ 4096) (hp : p ≤ 8 * n) (hk2 : 8 * n < p + k) : Met l yX1_read (ws_ yX1_read cX1_read 3 (some .long)) ({ frames := 2, cells := 0, slots := 0, locals := 50 }) (k_Pc D [(dB, .byte)] [.ref h0, .int v] [cR h0 qt z qs, cT qt dB f, cS qs qb p, cB qb dB n g] sz) (va_Ql (fun (r : Int64) (_ : Unit) => r = 4294967296) (k_B D [(dB, .byte)] (va_A [cR h0 qt z qs, cT qt dB f, cS qs qb p, cB qb dB n g] sz) (fun (_ : Unit) => [cR h0 qt z qs, cT qt dB f, cS qs qb p, cB qb dB n g])) (va_A [cR h0 qt z qs, cT qt dB f, cS qs qb p, cB qb dB n g] sz)) 0 0 (va_A [cR h0 qt z qs, cT qt dB f, cS qs qb p, cB qb dB n g] sz) := by
  refine Met.ofW (cc := cX1_read) (maxL := 3) (ret := (some .long)) (by decide) rfl ?_
  intro pg e s m args below meth c s₁ B hml hv
  obtain ⟨rfl, hsz, hP, hK, hD0⟩ := hv
  have hx := B.exec
  have hb := B.bytes
  have hr := B.returns
  have hts := atoms_spec (ws := (ws_ yX1_read cX1_read 3 (some .long))) B.pre
  have hts : ∀ w ∈ lw_all, w.before _ s = true := fun w h => hts w (List.mem_cons_of_mem _ h)
  have hown : s.vm.findClass RX1 = some m.cls := findClass_of_methodNamed B.named
  have hlocks := B.notSynchronized
  subst hsz
  have hD := hD0.self (sz := s.heap.size)
  generalize hAe : va_A [cR h0 qt z qs, cT qt dB f, cS qs qb p, cB qb dB n g] s.heap.size = A at hD ⊢
  have hA : ∀ q : Nat, s.heap.size ≤ q → A q := fun q h => by rw [← hAe]; exact Or.inr h
  have hS : va_S A s.heap s.heap [] := va_S.rf
  have hl := lv_entry ([.ref h0, .int v]) (n := 3) (Nat.le_of_ble_eq_true rfl)
  rw [lg_entry_eq]
  generalize (lg_sl ([.ref h0, .int v]) ++ List.replicate (3 - (lg_sl ([.ref h0, .int v])).length) Slot.unset).toArray = ls at hl ⊢
  have hl : lv_has ls 3 [(0, .ref h0), (1, .int v)] := hl
  refine lv_iconst (v := nI 1) hx hb dX1_read_0 (by decide) ?_
  refine lv_iload_n hx hb dX1_read_1 rfl (lv_at hl 1 rfl) ?_
  refine lv_bipush (v := nI 31) hx hb dX1_read_2 (by decide) ?_
  refine lv_iand hx hb dX1_read_4 ?_
  refine k_is (y := (nI (v.toBitVec.toNat % 2 ^ 5))) (pk_and v (m := nI 31) 5 (by decide)) ?_
  refine lv_iadd hx hb dX1_read_5 ?_
  refine k_is (y := (nI (1 + (v.toBitVec.toNat % 2 ^ 5)))) (nI_add _ _) ?_
  refine k_is (y := (nI k)) (congrArg nI (by omega)) ?_
  refine lv_istore_n (lv' := [(2, .int (nI k)), (0, .ref h0), (1, .int v)]) hx hb dX1_read_6 rfl hl (by decide) rfl (fun ls hl => ?_)
  refine lv_iload_n hx hb dX1_read_7 rfl (lv_at hl 0 rfl) ?_
  refine lv_aload_n hx hb dX1_read_8 rfl (lv_at hl 1 rfl) ?_
  refine va_get (D := D) (ci := 0) (v := .ref qs) (C := RX1) (T := TX1) (N := 3) hx hb hts in_X1 hown hK hP 0 rfl rfl 2 (by decide) (hts _ q44) (fun _ h9 => h9) rfl dX1_read_9 ?_
  refine k_calli (wr := [cR h0 qt z qs, cT qt dB f]) (w2 := fun (u_53 : Unit) => [cR h0 qt z qs, cT qt dB f, cS qs qb p, cB qb dB n g]) (va_runV (As := []) (rest := [.int (nI k)]) ⟨hx, hb, hml, hown, hts⟩ (m_avail l D dB _ qs qb p n g hn (by omega)) (cwV 0 hts (lw_V q71 q72 q73 q5 q74) rfl rfl rfl (by decide +kernel) ⟨Nat.le_of_ble_eq_true rfl, Nat.le_of_ble_eq_true rfl⟩) (k_preV (k_Psub (ws' := [cS qs qb p, cB qb dB n g]) hP [2, 3] rfl) hK (va_D.sub (ws' := [cS qs qb p, cB qb dB n g]) hD [2, 3] (by decide) rfl) 1 0 rfl rfl _) rfl rfl hl.1 rfl (lv_room (Nat.le_of_ble_eq_true rfl)) dX1_read_12 ⟨Nat.le_of_ble_eq_true rfl, Nat.le_of_ble_eq_true rfl⟩) hP hD hS hA [2, 3] [0, 1] [0, 1, 2, 3] rfl rfl (by decide) (by decide) (fun _ => rfl) (by decide) (fun r_54 u_53 H locs hw_55 hP hD hS => ?_)
  have hP : va_P D vwCl [cR h0 qt z qs, cT qt dB f, cS qs qb p, cB qb dB n g] H := hP
  have hD : va_D A [cR h0 qt z qs, cT qt dB f, cS qs qb p, cB qb dB n g] := hD
  have hw_55 : r_54 = (nI (8 * n - p)) := hw_55
  subst hw_55
  refine k_le (tgt := 24) hx hb dX1_read_15 (by decide) (by omega) (by omega) (fun c_56 => absurd c_56 (by omega)) (fun c_56 => ?_)
  refine lv_ldc2 (v := 4294967296) hx hb hown (hts _ q75) dX1_read_18 ?_
  refine lv_goto (tgt := 33) hx hb dX1_read_21 (by decide) ?_
  refine W.widen (k := 0) (n := 0) (Nat.le_of_ble_eq_true rfl) (Nat.le_of_ble_eq_true rfl) ?_
  exact W.lret (v := 4294967296) hx hb hr (fun t ht hW => ⟨⟨4294967296, (), rfl, rfl, by rw [ht]; exact hP, va_K.moved hW.alike hK, hD⟩, hS.F ht⟩) hS.2.2 dX1_read_33
end
section
/-! THE LAWs OWN HELPERS: a word of the script, a reader made of its first twenty -/
set_option maxRecDepth 100000
theorem k_bA {b sz : Nat} (h : b < sz) : ¬ va_A [] sz b := by
  intro q
  rcases q with ⟨k, x, q⟩ | q
  · simp at q
  · omega
set_option maxHeartbeats 4000000 in
set_option maxRecDepth 100000 in
/-- cell(s, k) -/
theorem m_cell (l : Launch) (D : va_G) (dB : ClassId) (sz : Nat) (b L : Nat) (xs : Nat → Int32) (k : Nat) (hL : L ≤ 40) (hk : k < 2147483648) : Met l yX0_cell (ws_ yX0_cell cX0_cell 2 (some .int)) ({ frames := 0, cells := 0, slots := 0, locals := 0 }) (k_Px D [(dB, .byte)] [.ref b, .int (nI k)] b L xs sz) (va_Qi (fun (r : Int32) (_ : Unit) => r = zb_cel L xs k) (fun (_ : Unit) (_ : State) => True) (va_A [] sz)) 0 0 (va_A [] sz) := by
  refine Met.ofW (cc := cX0_cell) (maxL := 2) (ret := (some .int)) (by decide) rfl ?_
  intro pg e s m args below meth c s₁ B hml hv
  obtain ⟨rfl, hsz, hK, hX, hbl⟩ := hv
  have hx := B.exec
  have hb := B.bytes
  have hr := B.returns
  have hts := atoms_spec (ws := (ws_ yX0_cell cX0_cell 2 (some .int))) B.pre
  have hts : ∀ w ∈ lw_all, w.before _ s = true := fun w h => hts w (List.mem_cons_of_mem _ h)
  have hown : s.vm.findClass RX0 = some m.cls := findClass_of_methodNamed B.named
  have hlocks := B.notSynchronized
  subst hsz
  have hP : va_P D vwCl [] s.heap := fun k q h => by simp at h
  have hD : va_D (va_A [] s.heap.size) [] := ⟨fun i j p q h => by simp at h, fun k q h => by simp at h⟩
  have hbA : ¬ va_A [] s.heap.size b := k_bA hbl
  generalize hAe : va_A [] s.heap.size = A at hD hbA ⊢
  have hA : ∀ q : Nat, s.heap.size ≤ q → A q := fun q h => by rw [← hAe]; exact Or.inr h
  have hS : va_S A s.heap s.heap [] := va_S.rf
  have hl := lv_entry ([.ref b, .int (nI k)]) (n := 2) (Nat.le_of_ble_eq_true rfl)
  rw [lg_entry_eq]
  generalize (lg_sl ([.ref b, .int (nI k)]) ++ List.replicate (2 - (lg_sl ([.ref b, .int (nI k)])).length) Slot.unset).toArray = ls at hl ⊢
  have hl : lv_has ls 2 [(0, .ref b), (1, .int (nI k))] := hl
  refine lv_iload_n hx hb dX0_cell_0 rfl (lv_at hl 1 rfl) ?_
  refine lv_aload_n hx hb dX0_cell_1 rfl (lv_at hl 0 rfl) ?_
  refine va_slen hx hb hX hbl hbA hS dX0_cell_2 ?_
  refine k_is (y := (nI L)) (rfl) ?_
  refine k_ge (tgt := 12) hx hb dX0_cell_3 (by decide) (by omega) (by omega) (fun ck => ?_) (fun ck => ?_)
  · refine lv_iconst (v := nI 0) hx hb dX0_cell_12 (by decide) ?_
    refine W.widen (k := 0) (n := 0) (Nat.le_of_ble_eq_true rfl) (Nat.le_of_ble_eq_true rfl) ?_
    exact W.iret (v := (nI 0)) hx hb hr (fun t ht hW => ⟨⟨(nI 0), (), rfl, by rw [zb_cel, if_neg (by omega)]; rfl, trivial⟩, hS.F ht⟩) hS.2.2 dX0_cell_13
  · refine lv_aload_n hx hb dX0_cell_6 rfl (lv_at hl 0 rfl) ?_
    refine lv_iload_n hx hb dX0_cell_7 rfl (lv_at hl 1 rfl) ?_
    refine va_sld hx hb hX hbl hbA hS (vp_in_nI (by omega) (by omega)) dX0_cell_8 ?_
    refine k_is (y := (xs k)) (congrArg xs (nI_clamp (by omega))) ?_
    refine lv_goto (tgt := 13) hx hb dX0_cell_9 (by decide) ?_
    refine W.widen (k := 0) (n := 0) (Nat.le_of_ble_eq_true rfl) (Nat.le_of_ble_eq_true rfl) ?_
    exact W.iret (v := (xs k)) hx hb hr (fun t ht hW => ⟨⟨(xs k), (), rfl, by rw [zb_cel, if_pos ck], trivial⟩, hS.F ht⟩) hS.2.2 dX0_cell_13

set_option maxHeartbeats 4000000 in
set_option maxRecDepth 100000 in
/-- askedCell(s, k) -/
theorem m_acell (l : Launch) (D : va_G) (dB : ClassId) (sz : Nat) (b L : Nat) (xs : Nat → Int32) (k : Nat) (hL : L ≤ 40) (hk : k < 2147483648) : Met l yX0_askedCell (ws_ yX0_askedCell cX0_askedCell 2 (some .int)) ({ frames := 0, cells := 0, slots := 0, locals := 0 }) (k_Px D [(dB, .byte)] [.ref b, .int (nI k)] b L xs sz) (va_Qi (fun (r : Int32) (_ : Unit) => r = zb_cel L xs k) (fun (_ : Unit) (_ : State) => True) (va_A [] sz)) 0 0 (va_A [] sz) := by
  refine Met.ofW (cc := cX0_askedCell) (maxL := 2) (ret := (some .int)) (by decide) rfl ?_
  intro pg e s m args below meth c s₁ B hml hv
  obtain ⟨rfl, hsz, hK, hX, hbl⟩ := hv
  have hx := B.exec
  have hb := B.bytes
  have hr := B.returns
  have hts := atoms_spec (ws := (ws_ yX0_askedCell cX0_askedCell 2 (some .int))) B.pre
  have hts : ∀ w ∈ lw_all, w.before _ s = true := fun w h => hts w (List.mem_cons_of_mem _ h)
  have hown : s.vm.findClass RX0 = some m.cls := findClass_of_methodNamed B.named
  have hlocks := B.notSynchronized
  subst hsz
  have hP : va_P D vwCl [] s.heap := fun k q h => by simp at h
  have hD : va_D (va_A [] s.heap.size) [] := ⟨fun i j p q h => by simp at h, fun k q h => by simp at h⟩
  have hbA : ¬ va_A [] s.heap.size b := k_bA hbl
  generalize hAe : va_A [] s.heap.size = A at hD hbA ⊢
  have hA : ∀ q : Nat, s.heap.size ≤ q → A q := fun q h => by rw [← hAe]; exact Or.inr h
  have hS : va_S A s.heap s.heap [] := va_S.rf
  have hl := lv_entry ([.ref b, .int (nI k)]) (n := 2) (Nat.le_of_ble_eq_true rfl)
  rw [lg_entry_eq]
  generalize (lg_sl ([.ref b, .int (nI k)]) ++ List.replicate (2 - (lg_sl ([.ref b, .int (nI k)])).length) Slot.unset).toArray = ls at hl ⊢
  have hl : lv_has ls 2 [(0, .ref b), (1, .int (nI k))] := hl
  refine lv_iload_n hx hb dX0_askedCell_0 rfl (lv_at hl 1 rfl) ?_
  refine lv_aload_n hx hb dX0_askedCell_1 rfl (lv_at hl 0 rfl) ?_
  refine va_slen hx hb hX hbl hbA hS dX0_askedCell_2 ?_
  refine k_is (y := (nI L)) (rfl) ?_
  refine k_ge (tgt := 12) hx hb dX0_askedCell_3 (by decide) (by omega) (by omega) (fun ck => ?_) (fun ck => ?_)
  · refine lv_iconst (v := nI 0) hx hb dX0_askedCell_12 (by decide) ?_
    refine W.widen (k := 0) (n := 0) (Nat.le_of_ble_eq_true rfl) (Nat.le_of_ble_eq_true rfl) ?_
    exact W.iret (v := (nI 0)) hx hb hr (fun t ht hW => ⟨⟨(nI 0), (), rfl, by rw [zb_cel, if_neg (by omega)]; rfl, trivial⟩, hS.F ht⟩) hS.2.2 dX0_askedCell_13
  · refine lv_aload_n hx hb dX0_askedCell_6 rfl (lv_at hl 0 rfl) ?_
    refine lv_iload_n hx hb dX0_askedCell_7 rfl (lv_at hl 1 rfl) ?_
    refine va_sld hx hb hX hbl hbA hS (vp_in_nI (by omega) (by omega)) dX0_askedCell_8 ?_
    refine k_is (y := (xs k)) (congrArg xs (nI_clamp (by omega))) ?_
    refine lv_goto (tgt := 13) hx hb dX0_askedCell_9 (by decide) ?_
    refine W.widen (k := 0) (n := 0) (Nat.le_of_ble_eq_true rfl) (Nat.le_of_ble_eq_true rfl) ?_
    exact W.iret (v := (xs k)) hx hb hr (fun t ht hW => ⟨⟨(xs k), (), rfl, by rw [zb_cel, if_pos ck], trivial⟩, hS.F ht⟩) hS.2.2 dX0_askedCell_13

set_option maxHeartbeats 4000000 in
set_option maxRecDepth 100000 in
/-- made(s): a reader begun over the script's 80 bytes -/
theorem m_made (l : Launch) (D : va_G) (dB : ClassId) (sz : Nat) (b L : Nat) (xs : Nat → Int32) (hL : L ≤ 40) : Met l yX0_made (ws_ yX0_made cX0_made 3 (some (.object "BitReader"))) ({ frames := 3, cells := 6, slots := 8201, locals := 80 }) (k_Px D [(dB, .byte)] [.ref b] b L xs sz) (va_Qr (fun (u : Nat × Nat × Nat × (Nat → Int32) × (Nat → Int32)) => ∀ i, i < 80 → zb_byt (u.2.2.2.2 i) = zb_sb L xs i) (k_Br D [(dB, .byte)] (va_A [] sz) (fun (u : Nat × Nat × Nat × (Nat → Int32) × (Nat → Int32)) (a : Nat) => [cR a u.1 80 u.2.1, cT u.1 dB u.2.2.2.1, cS u.2.1 u.2.2.1 0, cB u.2.2.1 dB 80 u.2.2.2.2])) (va_A [] sz)) 6 8201 (va_A [] sz) := by
  refine Met.ofW (cc := cX0_made) (maxL := 3) (ret := (some (.object "BitReader"))) (by decide) rfl ?_
  intro pg e s m args below meth c s₁ B hml hv
  obtain ⟨rfl, hsz, hK, hX, hbl⟩ := hv
  have hx := B.exec
  have hb := B.bytes
  have hr := B.returns
  have hts := atoms_spec (ws := (ws_ yX0_made cX0_made 3 (some (.object "BitReader")))) B.pre
  have hts : ∀ w ∈ lw_all, w.before _ s = true := fun w h => hts w (List.mem_cons_of_mem _ h)
  have hown : s.vm.findClass RX0 = some m.cls := findClass_of_methodNamed B.named
  have hlocks := B.notSynchronized
  subst hsz
  have hP : va_P D vwCl [] s.heap := fun k q h => by simp at h
  have hD : va_D (va_A [] s.heap.size) [] := ⟨fun i j p q h => by simp at h, fun k q h => by simp at h⟩
  have hbA : ¬ va_A [] s.heap.size b := k_bA hbl
  generalize hAe : va_A [] s.heap.size = A at hD hbA ⊢
  have hA : ∀ q : Nat, s.heap.size ≤ q → A q := fun q h => by rw [← hAe]; exact Or.inr h
  have hS : va_S A s.heap s.heap [] := va_S.rf
  have hl := lv_entry ([.ref b]) (n := 3) (Nat.le_of_ble_eq_true rfl)
  rw [lg_entry_eq]
  generalize (lg_sl ([.ref b]) ++ List.replicate (3 - (lg_sl ([.ref b])).length) Slot.unset).toArray = ls at hl ⊢
  have hl : lv_has ls 3 [(0, .ref b)] := hl
  refine va_new (ci := 0) (fs := [.null, .int (nI 0), .null]) (C := RX1) (T := TX1) (N := 3) hx hb hts in_X1 tyX1 tyX1_ok hown (hts _ q17) (hts _ q18) (hts _ q4) hK hP hD hS hA rfl (fun j hj => by rcases (show j = 0 ∨ j = 1 ∨ j = 2 by omega) with rfl | rfl | rfl <;> rfl) (Nat.le_of_ble_eq_true rfl) (Nat.le_of_ble_eq_true rfl) dX0_made_0 (fun qr_1 H hP hD hS => ?_)
  have hP : va_P D vwCl [(qr_1, .inr (0, [.null, .int (nI 0), .null]))] H := hP
  have hD : va_D A [(qr_1, .inr (0, [.null, .int (nI 0), .null]))] := hD
  refine lv_dup hx hb dX0_made_3 rfl ?_
  refine k_callv (wr := []) (w2 := fun (u_2 : Nat × Nat × Nat) => [cR qr_1 u_2.1 0 u_2.2.1, cT u_2.1 dB (fun _ => 0), cS u_2.2.1 u_2.2.2 0, cB u_2.2.2 dB 0 (fun _ => 0)]) (va_runI (As := []) (rest := [.ref qr_1]) ⟨hx, hb, hml, hown, hts⟩ (m_rinit l D dB _ qr_1) (cwI 0 hts (lw_meth q21) rfl rfl rfl (hts _ q4) (hts _ q19) (hts _ q20) rfl (by decide +kernel) ⟨Nat.le_of_ble_eq_true rfl, Nat.le_of_ble_eq_true rfl⟩) (k_preS (k_Psub (ws' := [(qr_1, .inr (0, [.null, .int (nI 0), .null]))]) hP [0] rfl) hK (va_D.sub (ws' := [(qr_1, .inr (0, [.null, .int (nI 0), .null]))]) hD [0] (by decide) rfl) _) rfl rfl hl.1 rfl (lv_room (Nat.le_of_ble_eq_true rfl)) dX0_made_4 ⟨Nat.le_of_ble_eq_true rfl, Nat.le_of_ble_eq_true rfl⟩) hP hD hS hA [0] [] [0, 1, 2, 3] rfl rfl (by decide) (by decide) (fun _ => rfl) (by decide) (fun u_2 H locs hw_4 hP hD hS => ?_)
  obtain ⟨qt, qs, qb⟩ := u_2
  have hP : va_P D vwCl [cR qr_1 qt 0 qs, cT qt dB (fun _ => 0), cS qs qb 0, cB qb dB 0 (fun _ => 0)] H := hP
  have hD : va_D A [cR qr_1 qt 0 qs, cT qt dB (fun _ => 0), cS qs qb 0, cB qb dB 0 (fun _ => 0)] := hD
  have hloop : ∀ (d t : Nat) (f : Nat → Int32), 5 - t ≤ d → t ≤ 5 → (∀ i, i < 16 * t → zb_byt (f i) = zb_sb L xs i) → ∀ (H : Heap) (locs : List Loc) (ls : Array Slot), va_P D vwCl [cR qr_1 qt (16 * t) qs, cT qt dB f, cS qs qb 0, cB qb dB 0 (fun _ => 0)] H → va_D A [cR qr_1 qt (16 * t) qs, cT qt dB f, cS qs qb 0, cB qb dB 0 (fun _ => 0)] → va_S A s.heap H locs → lv_has ls 3 [(2, .int (nI (4 * t))), (1, .ref qr_1), (0, .ref b)] → W pg l e (headSpec (ws_ yX0_made cX0_made 3 (some (.object "BitReader"))) ({ frames := 3, cells := 6, slots := 8201, locals := 80 })).room s m ([.ref b] : List Value).toArray below meth c H locs 4 4102 (MQ below (va_Qr (fun (u : Nat × Nat × Nat × (Nat → Int32) × (Nat → Int32)) => ∀ i, i < 80 → zb_byt (u.2.2.2.2 i) = zb_sb L xs i) (k_Br D [(dB, .byte)] A (fun (u : Nat × Nat × Nat × (Nat → Int32) × (Nat → Int32)) (a : Nat) => [cR a u.1 80 u.2.1, cT u.1 dB u.2.2.2.1, cS u.2.1 u.2.2.1 0, cB u.2.2.1 dB 80 u.2.2.2.2])) A) ([.ref b] : List Value).toArray s 6 8201 A) (F0 m 10 ls []) := by
    intro d
    induction d with
    | zero =>
      intro t f hd ht hf H locs ls hP hD hS hl
      refine lv_iload_n hx hb dX0_made_10 rfl (lv_at hl 0 rfl) ?_
      refine lv_bipush (v := nI 20) hx hb dX0_made_11 (by decide) ?_
      refine k_ge (tgt := 53) hx hb dX0_made_13 (by decide) (by omega) (by omega) (fun c_5 => ?_) (fun c_5 => absurd c_5 (by omega))
      have et : 16 * t = 80 := by omega
      rw [et] at hP hD
      have hP : va_P D vwCl [cR qr_1 qt 80 qs, cT qt dB f, cS qs qb 0, cB qb dB 0 (fun _ => 0)] H := hP
      have hD : va_D A [cR qr_1 qt 80 qs, cT qt dB f, cS qs qb 0, cB qb dB 0 (fun _ => 0)] := hD
      refine lv_aload_n hx hb dX0_made_53 rfl (lv_at hl 1 rfl) ?_
      refine k_callv (wr := []) (w2 := fun (u_6 : Nat × Nat × (Nat → Int32)) => [cR qr_1 qt 80 u_6.1, cT qt dB f, cS u_6.1 u_6.2.1 0, cB u_6.2.1 dB 80 u_6.2.2]) (va_runV (As := []) (rest := []) ⟨hx, hb, hml, hown, hts⟩ (m_begin l D dB _ qr_1 qt qs qb 80 f 0 0 (fun _ => 0) (by omega)) (cwV 0 hts (lw_V q63 q64 q65 q4 q66) rfl rfl rfl (by decide +kernel) ⟨Nat.le_of_ble_eq_true rfl, Nat.le_of_ble_eq_true rfl⟩) (k_preV (k_Psub (ws' := [cR qr_1 qt 80 qs, cT qt dB f, cS qs qb 0, cB qb dB 0 (fun _ => 0)]) hP [0, 1, 2, 3] rfl) hK (va_D.sub (ws' := [cR qr_1 qt 80 qs, cT qt dB f, cS qs qb 0, cB qb dB 0 (fun _ => 0)]) hD [0, 1, 2, 3] (by decide) rfl) 0 0 rfl rfl _) rfl rfl hl.1 rfl (lv_room (Nat.le_of_ble_eq_true rfl)) dX0_made_54 ⟨Nat.le_of_ble_eq_true rfl, Nat.le_of_ble_eq_true rfl⟩) hP hD hS hA [0, 1, 2, 3] [] [0, 1, 2, 3] rfl rfl (by decide) (by decide) (fun _ => rfl) (by decide) (fun u_6 H locs hw_8 hP hD hS => ?_)
      obtain ⟨qs1, qb1, g1⟩ := u_6
      have hP : va_P D vwCl [cR qr_1 qt 80 qs1, cT qt dB f, cS qs1 qb1 0, cB qb1 dB 80 g1] H := hP
      have hD : va_D A [cR qr_1 qt 80 qs1, cT qt dB f, cS qs1 qb1 0, cB qb1 dB 80 g1] := hD
      have hw_8 : ∀ j, j < 80 → zb_byt (g1 j) = zb_byt (f j) := hw_8
      refine lv_aload_n hx hb dX0_made_57 rfl (lv_at hl 1 rfl) ?_
      refine W.widen (k := 6) (n := 8201) (Nat.le_of_ble_eq_true rfl) (Nat.le_of_ble_eq_true rfl) ?_
      exact W.aret (v := .ref qr_1) hx hb hr (Or.inl ⟨_, rfl⟩) (Or.inr ⟨_, rfl⟩) (fun t ht hW => ⟨⟨(qt, qs1, qb1, f, g1), qr_1, rfl, fun i hi => (hw_8 i hi).trans (hf i (by omega)), by rw [ht]; exact hP, va_K.moved hW.alike hK, hD⟩, hS.F ht⟩) hS.2.2 dX0_made_58
    | succ d ih =>
      intro t f hd ht hf H locs ls hP hD hS hl
      refine lv_iload_n hx hb dX0_made_10 rfl (lv_at hl 0 rfl) ?_
      refine lv_bipush (v := nI 20) hx hb dX0_made_11 (by decide) ?_
      refine k_ge (tgt := 53) hx hb dX0_made_13 (by decide) (by omega) (by omega) (fun cl => ?_) (fun cl => ?_)
      · have et : 16 * t = 80 := by omega
        rw [et] at hP hD
        have hP : va_P D vwCl [cR qr_1 qt 80 qs, cT qt dB f, cS qs qb 0, cB qb dB 0 (fun _ => 0)] H := hP
        have hD : va_D A [cR qr_1 qt 80 qs, cT qt dB f, cS qs qb 0, cB qb dB 0 (fun _ => 0)] := hD
        refine lv_aload_n hx hb dX0_made_53 rfl (lv_at hl 1 rfl) ?_
        refine k_callv (wr := []) (w2 := fun (u_9 : Nat × Nat × (Nat → Int32)) => [cR qr_1 qt 80 u_9.1, cT qt dB f, cS u_9.1 u_9.2.1 0, cB u_9.2.1 dB 80 u_9.2.2]) (va_runV (As := []) (rest := []) ⟨hx, hb, hml, hown, hts⟩ (m_begin l D dB _ qr_1 qt qs qb 80 f 0 0 (fun _ => 0) (by omega)) (cwV 0 hts (lw_V q63 q64 q65 q4 q66) rfl rfl rfl (by decide +kernel) ⟨Nat.le_of_ble_eq_true rfl, Nat.le_of_ble_eq_true rfl⟩) (k_preV (k_Psub (ws' := [cR qr_1 qt 80 qs, cT qt dB f, cS qs qb 0, cB qb dB 0 (fun _ => 0)]) hP [0, 1, 2, 3] rfl) hK (va_D.sub (ws' := [cR qr_1 qt 80 qs, cT qt dB f, cS qs qb 0, cB qb dB 0 (fun _ => 0)]) hD [0, 1, 2, 3] (by decide) rfl) 0 0 rfl rfl _) rfl rfl hl.1 rfl (lv_room (Nat.le_of_ble_eq_true rfl)) dX0_made_54 ⟨Nat.le_of_ble_eq_true rfl, Nat.le_of_ble_eq_true rfl⟩) hP hD hS hA [0, 1, 2, 3] [] [0, 1, 2, 3] rfl rfl (by decide) (by decide) (fun _ => rfl) (by decide) (fun u_9 H locs hw_11 hP hD hS => ?_)
        obtain ⟨qs1, qb1, g1⟩ := u_9
        have hP : va_P D vwCl [cR qr_1 qt 80 qs1, cT qt dB f, cS qs1 qb1 0, cB qb1 dB 80 g1] H := hP
        have hD : va_D A [cR qr_1 qt 80 qs1, cT qt dB f, cS qs1 qb1 0, cB qb1 dB 80 g1] := hD
        have hw_11 : ∀ j, j < 80 → zb_byt (g1 j) = zb_byt (f j) := hw_11
        refine lv_aload_n hx hb dX0_made_57 rfl (lv_at hl 1 rfl) ?_
        refine W.widen (k := 6) (n := 8201) (Nat.le_of_ble_eq_true rfl) (Nat.le_of_ble_eq_true rfl) ?_
        exact W.aret (v := .ref qr_1) hx hb hr (Or.inl ⟨_, rfl⟩) (Or.inr ⟨_, rfl⟩) (fun t ht hW => ⟨⟨(qt, qs1, qb1, f, g1), qr_1, rfl, fun i hi => (hw_11 i hi).trans (hf i (by omega)), by rw [ht]; exact hP, va_K.moved hW.alike hK, hD⟩, hS.F ht⟩) hS.2.2 dX0_made_58
      · refine lv_aload_n hx hb dX0_made_16 rfl (lv_at hl 1 rfl) ?_
        refine lv_aload_n hx hb dX0_made_17 rfl (lv_at hl 2 rfl) ?_
        refine lv_iload_n hx hb dX0_made_18 rfl (lv_at hl 0 rfl) ?_
        refine k_callx (va_runS (As := [.ref b, .int (nI (4 * t))]) (rest := [.ref qr_1]) ⟨hx, hb, hml, hown, hts⟩ (m_cell l D dB _ b L xs (4 * t) hL (by omega)) (va_cwS 2 hts (lw_S q52 q53 q3 q54) rfl rfl rfl (by decide +kernel) ⟨Nat.le_of_ble_eq_true rfl, Nat.le_of_ble_eq_true rfl⟩) (k_preX hK hX hbl hbA hS _) rfl rfl hl.1 rfl (lv_room (Nat.le_of_ble_eq_true rfl)) dX0_made_19 ⟨Nat.le_of_ble_eq_true rfl, Nat.le_of_ble_eq_true rfl⟩) hP hS hA (fun r_13 u_12 H locs hw_14 hP hS => ?_)
        have hP : va_P D vwCl [cR qr_1 qt (16 * t) qs, cT qt dB f, cS qs qb 0, cB qb dB 0 (fun _ => 0)] H := hP
        have hw_14 : r_13 = (zb_cel L xs (4 * t)) := hw_14
        subst hw_14
        refine lv_aload_n hx hb dX0_made_22 rfl (lv_at hl 2 rfl) ?_
        refine lv_iload_n hx hb dX0_made_23 rfl (lv_at hl 0 rfl) ?_
        refine lv_iconst (v := nI 1) hx hb dX0_made_24 (by decide) ?_
        refine lv_iadd hx hb dX0_made_25 ?_
        refine k_is (y := (nI ((4 * t) + 1))) (nI_add _ _) ?_
        refine k_callx (va_runS (As := [.ref b, .int (nI (4 * t + 1))]) (rest := [.int (zb_cel L xs (4 * t)), .ref qr_1]) ⟨hx, hb, hml, hown, hts⟩ (m_cell l D dB _ b L xs (4 * t + 1) hL (by omega)) (va_cwS 2 hts (lw_S q52 q53 q3 q54) rfl rfl rfl (by decide +kernel) ⟨Nat.le_of_ble_eq_true rfl, Nat.le_of_ble_eq_true rfl⟩) (k_preX hK hX hbl hbA hS _) rfl rfl hl.1 rfl (lv_room (Nat.le_of_ble_eq_true rfl)) dX0_made_26 ⟨Nat.le_of_ble_eq_true rfl, Nat.le_of_ble_eq_true rfl⟩) hP hS hA (fun r_16 u_15 H locs hw_17 hP hS => ?_)
        have hP : va_P D vwCl [cR qr_1 qt (16 * t) qs, cT qt dB f, cS qs qb 0, cB qb dB 0 (fun _ => 0)] H := hP
        have hw_17 : r_16 = (zb_cel L xs (4 * t + 1)) := hw_17
        subst hw_17
        refine lv_aload_n hx hb dX0_made_29 rfl (lv_at hl 2 rfl) ?_
        refine lv_iload_n hx hb dX0_made_30 rfl (lv_at hl 0 rfl) ?_
        refine lv_iconst (v := nI 2) hx hb dX0_made_31 (by decide) ?_
        refine lv_iadd hx hb dX0_made_32 ?_
        refine k_is (y := (nI ((4 * t) + 2))) (nI_add _ _) ?_
        refine k_callx (va_runS (As := [.ref b, .int (nI (4 * t + 2))]) (rest := [.int (zb_cel L xs (4 * t + 1)), .int (zb_cel L xs (4 * t)), .ref qr_1]) ⟨hx, hb, hml, hown, hts⟩ (m_cell l D dB _ b L xs (4 * t + 2) hL (by omega)) (va_cwS 2 hts (lw_S q52 q53 q3 q54) rfl rfl rfl (by decide +kernel) ⟨Nat.le_of_ble_eq_true rfl, Nat.le_of_ble_eq_true rfl⟩) (k_preX hK hX hbl hbA hS _) rfl rfl hl.1 rfl (lv_room (Nat.le_of_ble_eq_true rfl)) dX0_made_33 ⟨Nat.le_of_ble_eq_true rfl, Nat.le_of_ble_eq_true rfl⟩) hP hS hA (fun r_19 u_18 H locs hw_20 hP hS => ?_)
        have hP : va_P D vwCl [cR qr_1 qt (16 * t) qs, cT qt dB f, cS qs qb 0, cB qb dB 0 (fun _ => 0)] H := hP
        have hw_20 : r_19 = (zb_cel L xs (4 * t + 2)) := hw_20
        subst hw_20
        refine lv_aload_n hx hb dX0_made_36 rfl (lv_at hl 2 rfl) ?_
        refine lv_iload_n hx hb dX0_made_37 rfl (lv_at hl 0 rfl) ?_
        refine lv_iconst (v := nI 3) hx hb dX0_made_38 (by decide) ?_
        refine lv_iadd hx hb dX0_made_39 ?_
        refine k_is (y := (nI ((4 * t) + 3))) (nI_add _ _) ?_
        refine k_callx (va_runS (As := [.ref b, .int (nI (4 * t + 3))]) (rest := [.int (zb_cel L xs (4 * t + 2)), .int (zb_cel L xs (4 * t + 1)), .int (zb_cel L xs (4 * t)), .ref qr_1]) ⟨hx, hb, hml, hown, hts⟩ (m_cell l D dB _ b L xs (4 * t + 3) hL (by omega)) (va_cwS 2 hts (lw_S q52 q53 q3 q54) rfl rfl rfl (by decide +kernel) ⟨Nat.le_of_ble_eq_true rfl, Nat.le_of_ble_eq_true rfl⟩) (k_preX hK hX hbl hbA hS _) rfl rfl hl.1 rfl (lv_room (Nat.le_of_ble_eq_true rfl)) dX0_made_40 ⟨Nat.le_of_ble_eq_true rfl, Nat.le_of_ble_eq_true rfl⟩) hP hS hA (fun r_22 u_21 H locs hw_23 hP hS => ?_)
        have hP : va_P D vwCl [cR qr_1 qt (16 * t) qs, cT qt dB f, cS qs qb 0, cB qb dB 0 (fun _ => 0)] H := hP
        have hw_23 : r_22 = (zb_cel L xs (4 * t + 3)) := hw_23
        subst hw_23
        refine k_calli (wr := []) (w2 := fun (u_24 : (Nat → Int32)) => [cR qr_1 qt (16 * t + 16) qs, cT qt dB u_24, cS qs qb 0, cB qb dB 0 (fun _ => 0)]) (va_runV (As := [.int (zb_cel L xs (4 * t)), .int (zb_cel L xs (4 * t + 1)), .int (zb_cel L xs (4 * t + 2)), .int (zb_cel L xs (4 * t + 3))]) (rest := []) ⟨hx, hb, hml, hown, hts⟩ (m_put l D dB _ qr_1 qt qs qb (16 * t) f 0 0 (fun _ => 0) (zb_cel L xs (4 * t)) (zb_cel L xs (4 * t + 1)) (zb_cel L xs (4 * t + 2)) (zb_cel L xs (4 * t + 3)) (by omega)) (cwV 4 hts (lw_V q55 q56 q57 q4 q58) rfl rfl rfl (by decide +kernel) ⟨Nat.le_of_ble_eq_true rfl, Nat.le_of_ble_eq_true rfl⟩) (k_preV (k_Psub (ws' := [cR qr_1 qt (16 * t) qs, cT qt dB f, cS qs qb 0, cB qb dB 0 (fun _ => 0)]) hP [0, 1, 2, 3] rfl) hK (va_D.sub (ws' := [cR qr_1 qt (16 * t) qs, cT qt dB f, cS qs qb 0, cB qb dB 0 (fun _ => 0)]) hD [0, 1, 2, 3] (by decide) rfl) 0 0 rfl rfl _) rfl rfl hl.1 rfl (lv_room (Nat.le_of_ble_eq_true rfl)) dX0_made_43 ⟨Nat.le_of_ble_eq_true rfl, Nat.le_of_ble_eq_true rfl⟩) hP hD hS hA [0, 1, 2, 3] [] [0, 1, 2, 3] rfl rfl (by decide) (by decide) (fun _ => rfl) (by decide) (fun r_25 u_24 H locs hw_26 hP hD hS => ?_)
        obtain ⟨f1, rfl⟩ : ∃ z, z = u_24 := ⟨_, rfl⟩
        have hP : va_P D vwCl [cR qr_1 qt (16 * t + 16) qs, cT qt dB f1, cS qs qb 0, cB qb dB 0 (fun _ => 0)] H := hP
        have hD : va_D A [cR qr_1 qt (16 * t + 16) qs, cT qt dB f1, cS qs qb 0, cB qb dB 0 (fun _ => 0)] := hD
        have hw_26 : r_25 = nI 1 ∧ ∀ i, zb_byt (f1 i) = if 16 * t ≤ i ∧ i < 16 * t + 16 then zb_in4 (zb_pick (zb_cel L xs (4 * t)) (zb_cel L xs (4 * t + 1)) (zb_cel L xs (4 * t + 2)) (zb_cel L xs (4 * t + 3)) ((i - 16 * t) / 4)) ((i - 16 * t) % 4) else zb_byt (f i) := hw_26
        have qhw_26 := hw_26.2
        have ehw_26 := hw_26.1
        subst ehw_26
        refine lv_pop hx hb dX0_made_46 rfl ?_
        refine lv_iinc (v := (nI ((4 * t) + 4))) (lv' := [(2, .int (nI ((4 * t) + 4))), (1, .ref qr_1), (0, .ref b)]) hx hb dX0_made_47 hl (k := 0) rfl (nI_add (4 * t) 4) (by decide) rfl (fun ls hl => ?_)
        refine lv_goto (tgt := 10) hx hb dX0_made_50 (by decide) ?_
        have e1 : 16 * t + 16 = 16 * (t + 1) := by omega
        have e2 : 4 * t + 4 = 4 * (t + 1) := by omega
        rw [e1] at hP hD
        rw [e2] at hl
        exact ih (t + 1) f1 (by omega) (by omega) (zb_made hf qhw_26) H locs ls hP hD hS (lv_sub hl [0, 1, 2] rfl)
  refine lv_astore_n (lv' := [(1, .ref qr_1), (0, .ref b)]) hx hb dX0_made_7 rfl hl (by decide) rfl (fun ls hl => ?_)
  refine lv_iconst (v := nI 0) hx hb dX0_made_8 (by decide) ?_
  refine lv_istore_n (lv' := [(2, .int (nI 0)), (1, .ref qr_1), (0, .ref b)]) hx hb dX0_made_9 rfl hl (by decide) rfl (fun ls hl => ?_)
  exact hloop 5 0 (fun _ => 0) (Nat.le_refl _) (Nat.zero_le _) (fun i hi => absurd hi (Nat.not_lt_zero i)) H _ ls hP hD hS (lv_sub hl [0, 1, 2] rfl)

set_option maxHeartbeats 4000000 in
set_option maxRecDepth 100000 in
/-- askedMade(s): a reader with the script's 80 bytes put -/
theorem m_amade (l : Launch) (D : va_G) (dB : ClassId) (sz : Nat) (b L : Nat) (xs : Nat → Int32) (hL : L ≤ 40) : Met l yX0_askedMade (ws_ yX0_askedMade cX0_askedMade 3 (some (.object "BitReader"))) ({ frames := 3, cells := 4, slots := 4102, locals := 80 }) (k_Px D [(dB, .byte)] [.ref b] b L xs sz) (va_Qr (fun (u : Nat × Nat × Nat × (Nat → Int32)) => ∀ i, i < 80 → zb_byt (u.2.2.2 i) = zb_sb L xs i) (k_Br D [(dB, .byte)] (va_A [] sz) (fun (u : Nat × Nat × Nat × (Nat → Int32)) (a : Nat) => [cR a u.1 80 u.2.1, cT u.1 dB u.2.2.2, cS u.2.1 u.2.2.1 0, cB u.2.2.1 dB 0 (fun _ => 0)])) (va_A [] sz)) 4 4102 (va_A [] sz) := by
  refine Met.ofW (cc := cX0_askedMade) (maxL := 3) (ret := (some (.object "BitReader"))) (by decide) rfl ?_
  intro pg e s m args below meth c s₁ B hml hv
  obtain ⟨rfl, hsz, hK, hX, hbl⟩ := hv
  have hx := B.exec
  have hb := B.bytes
  have hr := B.returns
  have hts := atoms_spec (ws := (ws_ yX0_askedMade cX0_askedMade 3 (some (.object "BitReader")))) B.pre
  have hts : ∀ w ∈ lw_all, w.before _ s = true := fun w h => hts w (List.mem_cons_of_mem _ h)
  have hown : s.vm.findClass RX0 = some m.cls := findClass_of_methodNamed B.named
  have hlocks := B.notSynchronized
  subst hsz
  have hP : va_P D vwCl [] s.heap := fun k q h => by simp at h
  have hD : va_D (va_A [] s.heap.size) [] := ⟨fun i j p q h => by simp at h, fun k q h => by simp at h⟩
  have hbA : ¬ va_A [] s.heap.size b := k_bA hbl
  generalize hAe : va_A [] s.heap.size = A at hD hbA ⊢
  have hA : ∀ q : Nat, s.heap.size ≤ q → A q := fun q h => by rw [← hAe]; exact Or.inr h
  have hS : va_S A s.heap s.heap [] := va_S.rf
  have hl := lv_entry ([.ref b]) (n := 3) (Nat.le_of_ble_eq_true rfl)
  rw [lg_entry_eq]
  generalize (lg_sl ([.ref b]) ++ List.replicate (3 - (lg_sl ([.ref b])).length) Slot.unset).toArray = ls at hl ⊢
  have hl : lv_has ls 3 [(0, .ref b)] := hl
  refine va_new (ci := 0) (fs := [.null, .int (nI 0), .null]) (C := RX1) (T := TX1) (N := 3) hx hb hts in_X1 tyX1 tyX1_ok hown (hts _ q17) (hts _ q18) (hts _ q4) hK hP hD hS hA rfl (fun j hj => by rcases (show j = 0 ∨ j = 1 ∨ j = 2 by omega) with rfl | rfl | rfl <;> rfl) (Nat.le_of_ble_eq_true rfl) (Nat.le_of_ble_eq_true rfl) dX0_askedMade_0 (fun qr_27 H hP hD hS => ?_)
  have hP : va_P D vwCl [(qr_27, .inr (0, [.null, .int (nI 0), .null]))] H := hP
  have hD : va_D A [(qr_27, .inr (0, [.null, .int (nI 0), .null]))] := hD
  refine lv_dup hx hb dX0_askedMade_3 rfl ?_
  refine k_callv (wr := []) (w2 := fun (u_28 : Nat × Nat × Nat) => [cR qr_27 u_28.1 0 u_28.2.1, cT u_28.1 dB (fun _ => 0), cS u_28.2.1 u_28.2.2 0, cB u_28.2.2 dB 0 (fun _ => 0)]) (va_runI (As := []) (rest := [.ref qr_27]) ⟨hx, hb, hml, hown, hts⟩ (m_rinit l D dB _ qr_27) (cwI 0 hts (lw_meth q21) rfl rfl rfl (hts _ q4) (hts _ q19) (hts _ q20) rfl (by decide +kernel) ⟨Nat.le_of_ble_eq_true rfl, Nat.le_of_ble_eq_true rfl⟩) (k_preS (k_Psub (ws' := [(qr_27, .inr (0, [.null, .int (nI 0), .null]))]) hP [0] rfl) hK (va_D.sub (ws' := [(qr_27, .inr (0, [.null, .int (nI 0), .null]))]) hD [0] (by decide) rfl) _) rfl rfl hl.1 rfl (lv_room (Nat.le_of_ble_eq_true rfl)) dX0_askedMade_4 ⟨Nat.le_of_ble_eq_true rfl, Nat.le_of_ble_eq_true rfl⟩) hP hD hS hA [0] [] [0, 1, 2, 3] rfl rfl (by decide) (by decide) (fun _ => rfl) (by decide) (fun u_28 H locs hw_30 hP hD hS => ?_)
  obtain ⟨qt, qs, qb⟩ := u_28
  have hP : va_P D vwCl [cR qr_27 qt 0 qs, cT qt dB (fun _ => 0), cS qs qb 0, cB qb dB 0 (fun _ => 0)] H := hP
  have hD : va_D A [cR qr_27 qt 0 qs, cT qt dB (fun _ => 0), cS qs qb 0, cB qb dB 0 (fun _ => 0)] := hD
  have hloop : ∀ (d t : Nat) (f : Nat → Int32), 5 - t ≤ d → t ≤ 5 → (∀ i, i < 16 * t → zb_byt (f i) = zb_sb L xs i) → ∀ (H : Heap) (locs : List Loc) (ls : Array Slot), va_P D vwCl [cR qr_27 qt (16 * t) qs, cT qt dB f, cS qs qb 0, cB qb dB 0 (fun _ => 0)] H → va_D A [cR qr_27 qt (16 * t) qs, cT qt dB f, cS qs qb 0, cB qb dB 0 (fun _ => 0)] → va_S A s.heap H locs → lv_has ls 3 [(2, .int (nI (4 * t))), (1, .ref qr_27), (0, .ref b)] → W pg l e (headSpec (ws_ yX0_askedMade cX0_askedMade 3 (some (.object "BitReader"))) ({ frames := 3, cells := 4, slots := 4102, locals := 80 })).room s m ([.ref b] : List Value).toArray below meth c H locs 4 4102 (MQ below (va_Qr (fun (u : Nat × Nat × Nat × (Nat → Int32)) => ∀ i, i < 80 → zb_byt (u.2.2.2 i) = zb_sb L xs i) (k_Br D [(dB, .byte)] A (fun (u : Nat × Nat × Nat × (Nat → Int32)) (a : Nat) => [cR a u.1 80 u.2.1, cT u.1 dB u.2.2.2, cS u.2.1 u.2.2.1 0, cB u.2.2.1 dB 0 (fun _ => 0)])) A) ([.ref b] : List Value).toArray s 4 4102 A) (F0 m 10 ls []) := by
    intro d
    induction d with
    | zero =>
      intro t f hd ht hf H locs ls hP hD hS hl
      refine lv_iload_n hx hb dX0_askedMade_10 rfl (lv_at hl 0 rfl) ?_
      refine lv_bipush (v := nI 20) hx hb dX0_askedMade_11 (by decide) ?_
      refine k_ge (tgt := 53) hx hb dX0_askedMade_13 (by decide) (by omega) (by omega) (fun c_31 => ?_) (fun c_31 => absurd c_31 (by omega))
      have et : 16 * t = 80 := by omega
      rw [et] at hP hD
      have hP : va_P D vwCl [cR qr_27 qt 80 qs, cT qt dB f, cS qs qb 0, cB qb dB 0 (fun _ => 0)] H := hP
      have hD : va_D A [cR qr_27 qt 80 qs, cT qt dB f, cS qs qb 0, cB qb dB 0 (fun _ => 0)] := hD
      refine lv_aload_n hx hb dX0_askedMade_53 rfl (lv_at hl 1 rfl) ?_
      refine W.widen (k := 4) (n := 4102) (Nat.le_of_ble_eq_true rfl) (Nat.le_of_ble_eq_true rfl) ?_
      exact W.aret (v := .ref qr_27) hx hb hr (Or.inl ⟨_, rfl⟩) (Or.inr ⟨_, rfl⟩) (fun t ht hW => ⟨⟨(qt, qs, qb, f), qr_27, rfl, fun i hi => hf i (by omega), by rw [ht]; exact hP, va_K.moved hW.alike hK, hD⟩, hS.F ht⟩) hS.2.2 dX0_askedMade_54
    | succ d ih =>
      intro t f hd ht hf H locs ls hP hD hS hl
      refine lv_iload_n hx hb dX0_askedMade_10 rfl (lv_at hl 0 rfl) ?_
      refine lv_bipush (v := nI 20) hx hb dX0_askedMade_11 (by decide) ?_
      refine k_ge (tgt := 53) hx hb dX0_askedMade_13 (by decide) (by omega) (by omega) (fun cl => ?_) (fun cl => ?_)
      · have et : 16 * t = 80 := by omega
        rw [et] at hP hD
        have hP : va_P D vwCl [cR qr_27 qt 80 qs, cT qt dB f, cS qs qb 0, cB qb dB 0 (fun _ => 0)] H := hP
        have hD : va_D A [cR qr_27 qt 80 qs, cT qt dB f, cS qs qb 0, cB qb dB 0 (fun _ => 0)] := hD
        refine lv_aload_n hx hb dX0_askedMade_53 rfl (lv_at hl 1 rfl) ?_
        refine W.widen (k := 4) (n := 4102) (Nat.le_of_ble_eq_true rfl) (Nat.le_of_ble_eq_true rfl) ?_
        exact W.aret (v := .ref qr_27) hx hb hr (Or.inl ⟨_, rfl⟩) (Or.inr ⟨_, rfl⟩) (fun t ht hW => ⟨⟨(qt, qs, qb, f), qr_27, rfl, fun i hi => hf i (by omega), by rw [ht]; exact hP, va_K.moved hW.alike hK, hD⟩, hS.F ht⟩) hS.2.2 dX0_askedMade_54
      · refine lv_aload_n hx hb dX0_askedMade_16 rfl (lv_at hl 1 rfl) ?_
        refine lv_aload_n hx hb dX0_askedMade_17 rfl (lv_at hl 2 rfl) ?_
        refine lv_iload_n hx hb dX0_askedMade_18 rfl (lv_at hl 0 rfl) ?_
        refine k_callx (va_runS (As := [.ref b, .int (nI (4 * t))]) (rest := [.ref qr_27]) ⟨hx, hb, hml, hown, hts⟩ (m_acell l D dB _ b L xs (4 * t) hL (by omega)) (va_cwS 2 hts (lw_S q177 q178 q3 q179) rfl rfl rfl (by decide +kernel) ⟨Nat.le_of_ble_eq_true rfl, Nat.le_of_ble_eq_true rfl⟩) (k_preX hK hX hbl hbA hS _) rfl rfl hl.1 rfl (lv_room (Nat.le_of_ble_eq_true rfl)) dX0_askedMade_19 ⟨Nat.le_of_ble_eq_true rfl, Nat.le_of_ble_eq_true rfl⟩) hP hS hA (fun r_33 u_32 H locs hw_34 hP hS => ?_)
        have hP : va_P D vwCl [cR qr_27 qt (16 * t) qs, cT qt dB f, cS qs qb 0, cB qb dB 0 (fun _ => 0)] H := hP
        have hw_34 : r_33 = (zb_cel L xs (4 * t)) := hw_34
        subst hw_34
        refine lv_aload_n hx hb dX0_askedMade_22 rfl (lv_at hl 2 rfl) ?_
        refine lv_iload_n hx hb dX0_askedMade_23 rfl (lv_at hl 0 rfl) ?_
        refine lv_iconst (v := nI 1) hx hb dX0_askedMade_24 (by decide) ?_
        refine lv_iadd hx hb dX0_askedMade_25 ?_
        refine k_is (y := (nI ((4 * t) + 1))) (nI_add _ _) ?_
        refine k_callx (va_runS (As := [.ref b, .int (nI (4 * t + 1))]) (rest := [.int (zb_cel L xs (4 * t)), .ref qr_27]) ⟨hx, hb, hml, hown, hts⟩ (m_acell l D dB _ b L xs (4 * t + 1) hL (by omega)) (va_cwS 2 hts (lw_S q177 q178 q3 q179) rfl rfl rfl (by decide +kernel) ⟨Nat.le_of_ble_eq_true rfl, Nat.le_of_ble_eq_true rfl⟩) (k_preX hK hX hbl hbA hS _) rfl rfl hl.1 rfl (lv_room (Nat.le_of_ble_eq_true rfl)) dX0_askedMade_26 ⟨Nat.le_of_ble_eq_true rfl, Nat.le_of_ble_eq_true rfl⟩) hP hS hA (fun r_36 u_35 H locs hw_37 hP hS => ?_)
        have hP : va_P D vwCl [cR qr_27 qt (16 * t) qs, cT qt dB f, cS qs qb 0, cB qb dB 0 (fun _ => 0)] H := hP
        have hw_37 : r_36 = (zb_cel L xs (4 * t + 1)) := hw_37
        subst hw_37
        refine lv_aload_n hx hb dX0_askedMade_29 rfl (lv_at hl 2 rfl) ?_
        refine lv_iload_n hx hb dX0_askedMade_30 rfl (lv_at hl 0 rfl) ?_
        refine lv_iconst (v := nI 2) hx hb dX0_askedMade_31 (by decide) ?_
        refine lv_iadd hx hb dX0_askedMade_32 ?_
        refine k_is (y := (nI ((4 * t) + 2))) (nI_add _ _) ?_
        refine k_callx (va_runS (As := [.ref b, .int (nI (4 * t + 2))]) (rest := [.int (zb_cel L xs (4 * t + 1)), .int (zb_cel L xs (4 * t)), .ref qr_27]) ⟨hx, hb, hml, hown, hts⟩ (m_acell l D dB _ b L xs (4 * t + 2) hL (by omega)) (va_cwS 2 hts (lw_S q177 q178 q3 q179) rfl rfl rfl (by decide +kernel) ⟨Nat.le_of_ble_eq_true rfl, Nat.le_of_ble_eq_true rfl⟩) (k_preX hK hX hbl hbA hS _) rfl rfl hl.1 rfl (lv_room (Nat.le_of_ble_eq_true rfl)) dX0_askedMade_33 ⟨Nat.le_of_ble_eq_true rfl, Nat.le_of_ble_eq_true rfl⟩) hP hS hA (fun r_39 u_38 H locs hw_40 hP hS => ?_)
        have hP : va_P D vwCl [cR qr_27 qt (16 * t) qs, cT qt dB f, cS qs qb 0, cB qb dB 0 (fun _ => 0)] H := hP
        have hw_40 : r_39 = (zb_cel L xs (4 * t + 2)) := hw_40
        subst hw_40
        refine lv_aload_n hx hb dX0_askedMade_36 rfl (lv_at hl 2 rfl) ?_
        refine lv_iload_n hx hb dX0_askedMade_37 rfl (lv_at hl 0 rfl) ?_
        refine lv_iconst (v := nI 3) hx hb dX0_askedMade_38 (by decide) ?_
        refine lv_iadd hx hb dX0_askedMade_39 ?_
        refine k_is (y := (nI ((4 * t) + 3))) (nI_add _ _) ?_
        refine k_callx (va_runS (As := [.ref b, .int (nI (4 * t + 3))]) (rest := [.int (zb_cel L xs (4 * t + 2)), .int (zb_cel L xs (4 * t + 1)), .int (zb_cel L xs (4 * t)), .ref qr_27]) ⟨hx, hb, hml, hown, hts⟩ (m_acell l D dB _ b L xs (4 * t + 3) hL (by omega)) (va_cwS 2 hts (lw_S q177 q178 q3 q179) rfl rfl rfl (by decide +kernel) ⟨Nat.le_of_ble_eq_true rfl, Nat.le_of_ble_eq_true rfl⟩) (k_preX hK hX hbl hbA hS _) rfl rfl hl.1 rfl (lv_room (Nat.le_of_ble_eq_true rfl)) dX0_askedMade_40 ⟨Nat.le_of_ble_eq_true rfl, Nat.le_of_ble_eq_true rfl⟩) hP hS hA (fun r_42 u_41 H locs hw_43 hP hS => ?_)
        have hP : va_P D vwCl [cR qr_27 qt (16 * t) qs, cT qt dB f, cS qs qb 0, cB qb dB 0 (fun _ => 0)] H := hP
        have hw_43 : r_42 = (zb_cel L xs (4 * t + 3)) := hw_43
        subst hw_43
        refine k_calli (wr := []) (w2 := fun (u_44 : (Nat → Int32)) => [cR qr_27 qt (16 * t + 16) qs, cT qt dB u_44, cS qs qb 0, cB qb dB 0 (fun _ => 0)]) (va_runV (As := [.int (zb_cel L xs (4 * t)), .int (zb_cel L xs (4 * t + 1)), .int (zb_cel L xs (4 * t + 2)), .int (zb_cel L xs (4 * t + 3))]) (rest := []) ⟨hx, hb, hml, hown, hts⟩ (m_put l D dB _ qr_27 qt qs qb (16 * t) f 0 0 (fun _ => 0) (zb_cel L xs (4 * t)) (zb_cel L xs (4 * t + 1)) (zb_cel L xs (4 * t + 2)) (zb_cel L xs (4 * t + 3)) (by omega)) (cwV 4 hts (lw_V q55 q56 q57 q4 q58) rfl rfl rfl (by decide +kernel) ⟨Nat.le_of_ble_eq_true rfl, Nat.le_of_ble_eq_true rfl⟩) (k_preV (k_Psub (ws' := [cR qr_27 qt (16 * t) qs, cT qt dB f, cS qs qb 0, cB qb dB 0 (fun _ => 0)]) hP [0, 1, 2, 3] rfl) hK (va_D.sub (ws' := [cR qr_27 qt (16 * t) qs, cT qt dB f, cS qs qb 0, cB qb dB 0 (fun _ => 0)]) hD [0, 1, 2, 3] (by decide) rfl) 0 0 rfl rfl _) rfl rfl hl.1 rfl (lv_room (Nat.le_of_ble_eq_true rfl)) dX0_askedMade_43 ⟨Nat.le_of_ble_eq_true rfl, Nat.le_of_ble_eq_true rfl⟩) hP hD hS hA [0, 1, 2, 3] [] [0, 1, 2, 3] rfl rfl (by decide) (by decide) (fun _ => rfl) (by decide) (fun r_45 u_44 H locs hw_46 hP hD hS => ?_)
        obtain ⟨f1, rfl⟩ : ∃ z, z = u_44 := ⟨_, rfl⟩
        have hP : va_P D vwCl [cR qr_27 qt (16 * t + 16) qs, cT qt dB f1, cS qs qb 0, cB qb dB 0 (fun _ => 0)] H := hP
        have hD : va_D A [cR qr_27 qt (16 * t + 16) qs, cT qt dB f1, cS qs qb 0, cB qb dB 0 (fun _ => 0)] := hD
        have hw_46 : r_45 = nI 1 ∧ ∀ i, zb_byt (f1 i) = if 16 * t ≤ i ∧ i < 16 * t + 16 then zb_in4 (zb_pick (zb_cel L xs (4 * t)) (zb_cel L xs (4 * t + 1)) (zb_cel L xs (4 * t + 2)) (zb_cel L xs (4 * t + 3)) ((i - 16 * t) / 4)) ((i - 16 * t) % 4) else zb_byt (f i) := hw_46
        have qhw_46 := hw_46.2
        have ehw_46 := hw_46.1
        subst ehw_46
        refine lv_pop hx hb dX0_askedMade_46 rfl ?_
        refine lv_iinc (v := (nI ((4 * t) + 4))) (lv' := [(2, .int (nI ((4 * t) + 4))), (1, .ref qr_27), (0, .ref b)]) hx hb dX0_askedMade_47 hl (k := 0) rfl (nI_add (4 * t) 4) (by decide) rfl (fun ls hl => ?_)
        refine lv_goto (tgt := 10) hx hb dX0_askedMade_50 (by decide) ?_
        have e1 : 16 * t + 16 = 16 * (t + 1) := by omega
        have e2 : 4 * t + 4 = 4 * (t + 1) := by omega
        rw [e1] at hP hD
        rw [e2] at hl
        exact ih (t + 1) f1 (by omega) (by omega) (zb_made hf qhw_46) H locs ls hP hD hS (lv_sub hl [0, 1, 2] rfl)
  refine lv_astore_n (lv' := [(1, .ref qr_27), (0, .ref b)]) hx hb dX0_askedMade_7 rfl hl (by decide) rfl (fun ls hl => ?_)
  refine lv_iconst (v := nI 0) hx hb dX0_askedMade_8 (by decide) ?_
  refine lv_istore_n (lv' := [(2, .int (nI 0)), (1, .ref qr_27), (0, .ref b)]) hx hb dX0_askedMade_9 rfl hl (by decide) rfl (fun ls hl => ?_)
  exact hloop 5 0 (fun _ => 0) (Nat.le_refl _) (Nat.zero_le _) (fun i hi => absurd hi (Nat.not_lt_zero i)) H _ ls hP hD hS (lv_sub hl [0, 1, 2] rfl)
end
section
/-! elder(s): bytes read one by one; pairs of pieces against one read of both lengths -/
set_option maxRecDepth 100000
theorem zb_read8 {g : Nat → Int32} {L : Nat} {xs : Nat → Int32} (hg : ∀ i, i < 80 → zb_byt (g i) = zb_sb L xs i) {i : Nat} (hi : i < 80) : zb_num (fun i => zb_byt (g i)) (8 * i) 8 = zb_sb L xs i := by
  have h : zb_num (fun i => zb_byt (g i)) (8 * i) 8 = zb_num (fun i => zb_byt (g i)) (8 * i) 0 * 2 ^ 8 + zb_byt (g ((8 * i + 0) / 8)) := zb_step8 (fun i => zb_byt (g i)) (8 * i) 0 (by omega) (zb_byt_lt _)
  rw [h, zb_num_0, Nat.zero_mul, Nat.zero_add, show (8 * i + 0) / 8 = i by omega, hg i hi]
theorem zb_num_31 {T : Nat → Nat} {p k : Nat} (h : k ≤ 31) : zb_num T p k < 2 ^ 31 := Nat.lt_of_lt_of_le (zb_num_lt T p k) (Nat.pow_le_pow_right (by decide) h)
theorem zb_num_32 {T : Nat → Nat} {p k : Nat} (h : k ≤ 32) : zb_num T p k < 2 ^ 32 := Nat.lt_of_lt_of_le (zb_num_lt T p k) (Nat.pow_le_pow_right (by decide) h)
/-- the argument of a read of n + 1 bits -/
theorem zb_arg {n : Nat} (h : n < 32) : (nI n).toBitVec.toNat % 32 + 1 = n + 1 := by
  rw [pk_tn (by omega), Nat.mod_eq_of_lt h]
set_option maxHeartbeats 4000000 in
set_option maxRecDepth 100000 in
/-- elder(s) answers true -/
theorem m_elder (l : Launch) (D : va_G) (dB : ClassId) (sz : Nat) (b L : Nat) (xs : Nat → Int32) (hL : L ≤ 40) : Met l yX0_elder (ws_ yX0_elder cX0_elder 11 (some .boolean)) ({ frames := 4, cells := 18, slots := 24603, locals := 110 }) (k_Px D [(dB, .byte)] [.ref b] b L xs sz) (va_Qi (fun (r : Int32) (_ : Unit) => r = nI 1) (fun (_ : Unit) (_ : State) => True) (va_A [] sz)) 18 24603 (va_A [] sz) := by
  refine Met.ofW (cc := cX0_elder) (maxL := 11) (ret := (some .boolean)) (by decide) rfl ?_
  intro pg e s m args below meth c s₁ B hml hv
  obtain ⟨rfl, hsz, hK, hX, hbl⟩ := hv
  have hx := B.exec
  have hb := B.bytes
  have hr := B.returns
  have hts := atoms_spec (ws := (ws_ yX0_elder cX0_elder 11 (some .boolean))) B.pre
  have hts : ∀ w ∈ lw_all, w.before _ s = true := fun w h => hts w (List.mem_cons_of_mem _ h)
  have hown : s.vm.findClass RX0 = some m.cls := findClass_of_methodNamed B.named
  have hlocks := B.notSynchronized
  subst hsz
  have hP : va_P D vwCl [] s.heap := fun k q h => by simp at h
  have hD : va_D (va_A [] s.heap.size) [] := ⟨fun i j p q h => by simp at h, fun k q h => by simp at h⟩
  have hbA : ¬ va_A [] s.heap.size b := k_bA hbl
  generalize hAe : va_A [] s.heap.size = A at hD hbA ⊢
  have hA : ∀ q : Nat, s.heap.size ≤ q → A q := fun q h => by rw [← hAe]; exact Or.inr h
  have hS : va_S A s.heap s.heap [] := va_S.rf
  have hl := lv_entry ([.ref b]) (n := 11) (Nat.le_of_ble_eq_true rfl)
  rw [lg_entry_eq]
  generalize (lg_sl ([.ref b]) ++ List.replicate (11 - (lg_sl ([.ref b])).length) Slot.unset).toArray = ls at hl ⊢
  have hl : lv_has ls 11 [(0, .ref b)] := hl
  refine lv_aload_n hx hb dX0_elder_0 rfl (lv_at hl 0 rfl) ?_
  refine k_callr (va_runS (As := [.ref b]) (rest := []) ⟨hx, hb, hml, hown, hts⟩ (m_made l D dB _ b L xs hL) (va_cwS 1 hts (lw_S q14 q15 q3 q16) rfl rfl rfl (by decide +kernel) ⟨Nat.le_of_ble_eq_true rfl, Nat.le_of_ble_eq_true rfl⟩) (k_preX hK hX hbl hbA hS _) rfl rfl hl.1 rfl (lv_room (Nat.le_of_ble_eq_true rfl)) dX0_elder_1 ⟨Nat.le_of_ble_eq_true rfl, Nat.le_of_ble_eq_true rfl⟩) hP hD hS hA [] rfl (by decide) (fun u_1 q1 H locs hw_2 hP hD hS => ?_)
  obtain ⟨qt1, qs1, qb1, f1, g1⟩ := u_1
  have hP : va_P D vwCl [cR q1 qt1 80 qs1, cT qt1 dB f1, cS qs1 qb1 0, cB qb1 dB 80 g1] H := hP
  have hD : va_D A [cR q1 qt1 80 qs1, cT qt1 dB f1, cS qs1 qb1 0, cB qb1 dB 80 g1] := hD
  have hw_2 : ∀ i, i < 80 → zb_byt (g1 i) = zb_sb L xs i := hw_2
  have hg1 := hw_2
  refine lv_astore_n (lv' := [(1, .ref q1), (0, .ref b)]) hx hb dX0_elder_4 rfl hl (by decide) rfl (fun ls hl => ?_)
  refine lv_iconst (v := nI 0) hx hb dX0_elder_5 (by decide) ?_
  refine lv_istore_n (lv' := [(2, .int (nI 0)), (1, .ref q1), (0, .ref b)]) hx hb dX0_elder_6 rfl hl (by decide) rfl (fun ls hl => ?_)
  have hloop : ∀ (d i : Nat), 80 - i ≤ d → i ≤ 80 → ∀ (H : Heap) (locs : List Loc) (ls : Array Slot), va_P D vwCl [cR q1 qt1 80 qs1, cT qt1 dB f1, cS qs1 qb1 (8 * i), cB qb1 dB 80 g1] H → va_D A [cR q1 qt1 80 qs1, cT qt1 dB f1, cS qs1 qb1 (8 * i), cB qb1 dB 80 g1] → va_S A s.heap H locs → lv_has ls 11 [(2, .int (nI i)), (1, .ref q1), (0, .ref b)] → W pg l e (headSpec (ws_ yX0_elder cX0_elder 11 (some .boolean)) ({ frames := 4, cells := 18, slots := 24603, locals := 110 })).room s m ([.ref b] : List Value).toArray below meth c H locs 6 8201 (MQ below (va_Qi (fun (r : Int32) (_ : Unit) => r = nI 1) (fun (_ : Unit) (_ : State) => True) A) ([.ref b] : List Value).toArray s 18 24603 A) (F0 m 7 ls []) := by
    have hrest : ∀ (H : Heap) (locs : List Loc) (ls : Array Slot), va_P D vwCl [] H → va_D A [] → va_S A s.heap H locs → lv_has ls 11 [(0, .ref b)] → W pg l e (headSpec (ws_ yX0_elder cX0_elder 11 (some .boolean)) ({ frames := 4, cells := 18, slots := 24603, locals := 110 })).room s m ([.ref b] : List Value).toArray below meth c H locs 6 8201 (MQ below (va_Qi (fun (r : Int32) (_ : Unit) => r = nI 1) (fun (_ : Unit) (_ : State) => True) A) ([.ref b] : List Value).toArray s 18 24603 A) (F0 m 53 ls []) := by
      intro H locs ls hP hD hS hl
      refine lv_aload_n hx hb dX0_elder_53 rfl (lv_at hl 0 rfl) ?_
      refine k_callr (va_runS (As := [.ref b]) (rest := []) ⟨hx, hb, hml, hown, hts⟩ (m_made l D dB _ b L xs hL) (va_cwS 1 hts (lw_S q14 q15 q3 q16) rfl rfl rfl (by decide +kernel) ⟨Nat.le_of_ble_eq_true rfl, Nat.le_of_ble_eq_true rfl⟩) (k_preX hK hX hbl hbA hS _) rfl rfl hl.1 rfl (lv_room (Nat.le_of_ble_eq_true rfl)) dX0_elder_54 ⟨Nat.le_of_ble_eq_true rfl, Nat.le_of_ble_eq_true rfl⟩) hP hD hS hA [] rfl (by decide) (fun u_3 q2 H locs hw_4 hP hD hS => ?_)
      obtain ⟨qt2, qs2, qb2, f2, g2⟩ := u_3
      have hP : va_P D vwCl [cR q2 qt2 80 qs2, cT qt2 dB f2, cS qs2 qb2 0, cB qb2 dB 80 g2] H := hP
      have hD : va_D A [cR q2 qt2 80 qs2, cT qt2 dB f2, cS qs2 qb2 0, cB qb2 dB 80 g2] := hD
      have hw_4 : ∀ i, i < 80 → zb_byt (g2 i) = zb_sb L xs i := hw_4
      have hg2 := hw_4
      refine lv_astore_n (lv' := [(1, .ref q2), (0, .ref b)]) hx hb dX0_elder_57 rfl hl (by decide) rfl (fun ls hl => ?_)
      refine lv_aload_n hx hb dX0_elder_58 rfl (lv_at hl 1 rfl) ?_
      refine k_callr (va_runS (As := [.ref b]) (rest := []) ⟨hx, hb, hml, hown, hts⟩ (m_made l D dB _ b L xs hL) (va_cwS 1 hts (lw_S q14 q15 q3 q16) rfl rfl rfl (by decide +kernel) ⟨Nat.le_of_ble_eq_true rfl, Nat.le_of_ble_eq_true rfl⟩) (k_preX hK hX hbl hbA hS _) rfl rfl hl.1 rfl (lv_room (Nat.le_of_ble_eq_true rfl)) dX0_elder_59 ⟨Nat.le_of_ble_eq_true rfl, Nat.le_of_ble_eq_true rfl⟩) hP hD hS hA [0, 1, 2, 3] rfl (by decide) (fun u_5 q3 H locs hw_6 hP hD hS => ?_)
      obtain ⟨qt3, qs3, qb3, f3, g3⟩ := u_5
      have hP : va_P D vwCl [cR q2 qt2 80 qs2, cT qt2 dB f2, cS qs2 qb2 0, cB qb2 dB 80 g2, cR q3 qt3 80 qs3, cT qt3 dB f3, cS qs3 qb3 0, cB qb3 dB 80 g3] H := hP
      have hD : va_D A [cR q2 qt2 80 qs2, cT qt2 dB f2, cS qs2 qb2 0, cB qb2 dB 80 g2, cR q3 qt3 80 qs3, cT qt3 dB f3, cS qs3 qb3 0, cB qb3 dB 80 g3] := hD
      have hw_6 : ∀ i, i < 80 → zb_byt (g3 i) = zb_sb L xs i := hw_6
      have hg3 := hw_6
      refine lv_astore_n (lv' := [(2, .ref q3), (1, .ref q2), (0, .ref b)]) hx hb dX0_elder_62 rfl hl (by decide) rfl (fun ls hl => ?_)
      refine lv_sipush (v := nI 640) hx hb dX0_elder_63 (by decide) ?_
      refine lv_istore_n (lv' := [(3, .int (nI 640)), (2, .ref q3), (1, .ref q2), (0, .ref b)]) hx hb dX0_elder_66 rfl hl (by decide) rfl (fun ls hl => ?_)
      refine lv_aload_n hx hb dX0_elder_67 rfl (lv_at hl 2 rfl) ?_
      refine k_calli (wr := [cR q3 qt3 80 qs3, cT qt3 dB f3, cS qs3 qb3 0, cB qb3 dB 80 g3]) (w2 := fun (u_7 : Unit) => [cR q2 qt2 80 qs2, cT qt2 dB f2, cS qs2 qb2 0, cB qb2 dB 80 g2, cR q3 qt3 80 qs3, cT qt3 dB f3, cS qs3 qb3 0, cB qb3 dB 80 g3]) (va_runV (As := []) (rest := []) ⟨hx, hb, hml, hown, hts⟩ (m_left l D dB _ q2 qt2 qs2 qb2 80 f2 0 80 g2 (by omega) (by omega)) (cwV 0 hts (lw_V q149 q150 q151 q4 q152) rfl rfl rfl (by decide +kernel) ⟨Nat.le_of_ble_eq_true rfl, Nat.le_of_ble_eq_true rfl⟩) (k_preV (k_Psub (ws' := [cR q2 qt2 80 qs2, cT qt2 dB f2, cS qs2 qb2 0, cB qb2 dB 80 g2]) hP [0, 1, 2, 3] rfl) hK (va_D.sub (ws' := [cR q2 qt2 80 qs2, cT qt2 dB f2, cS qs2 qb2 0, cB qb2 dB 80 g2]) hD [0, 1, 2, 3] (by decide) rfl) 0 0 rfl rfl _) rfl rfl hl.1 rfl (lv_room (Nat.le_of_ble_eq_true rfl)) dX0_elder_68 ⟨Nat.le_of_ble_eq_true rfl, Nat.le_of_ble_eq_true rfl⟩) hP hD hS hA [0, 1, 2, 3] [4, 5, 6, 7] [4, 5, 6, 7, 0, 1, 2, 3] rfl rfl (by decide) (by decide) (fun _ => rfl) (by decide) (fun r_8 u_7 H locs hw_9 hP hD hS => ?_)
      have hP : va_P D vwCl [cR q2 qt2 80 qs2, cT qt2 dB f2, cS qs2 qb2 0, cB qb2 dB 80 g2, cR q3 qt3 80 qs3, cT qt3 dB f3, cS qs3 qb3 0, cB qb3 dB 80 g3] H := hP
      have hD : va_D A [cR q2 qt2 80 qs2, cT qt2 dB f2, cS qs2 qb2 0, cB qb2 dB 80 g2, cR q3 qt3 80 qs3, cT qt3 dB f3, cS qs3 qb3 0, cB qb3 dB 80 g3] := hD
      have hw_9 : r_8 = (nI (8 * 80 - 0)) := hw_9
      subst hw_9
      refine lv_iload_n hx hb dX0_elder_71 rfl (lv_at hl 0 rfl) ?_
      refine k_eq (tgt := 77) hx hb dX0_elder_72 (by decide) (by omega) (by omega) (fun c_10 => ?_) (fun c_10 => absurd c_10 (by omega))
      refine lv_bipush (v := nI 20) hx hb dX0_elder_77 (by decide) ?_
      refine lv_istore (lv' := [(4, .int (nI 20)), (3, .int (nI 640)), (2, .ref q3), (1, .ref q2), (0, .ref b)]) hx hb dX0_elder_79 hl (by decide) rfl (fun ls hl => ?_)
      have hpair : ∀ (d t p : Nat), 10 - t ≤ d → t ≤ 10 → p ≤ 32 * t → ∀ (H : Heap) (locs : List Loc) (ls : Array Slot), va_P D vwCl [cR q2 qt2 80 qs2, cT qt2 dB f2, cS qs2 qb2 p, cB qb2 dB 80 g2, cR q3 qt3 80 qs3, cT qt3 dB f3, cS qs3 qb3 p, cB qb3 dB 80 g3] H → va_D A [cR q2 qt2 80 qs2, cT qt2 dB f2, cS qs2 qb2 p, cB qb2 dB 80 g2, cR q3 qt3 80 qs3, cT qt3 dB f3, cS qs3 qb3 p, cB qb3 dB 80 g3] → va_S A s.heap H locs → lv_has ls 11 [(4, .int (nI (20 + 2 * t))), (3, .int (nI (640 - p))), (2, .ref q3), (1, .ref q2), (0, .ref b)] → W pg l e (headSpec (ws_ yX0_elder cX0_elder 11 (some .boolean)) ({ frames := 4, cells := 18, slots := 24603, locals := 110 })).room s m ([.ref b] : List Value).toArray below meth c H locs 18 24603 (MQ below (va_Qi (fun (r : Int32) (_ : Unit) => r = nI 1) (fun (_ : Unit) (_ : State) => True) A) ([.ref b] : List Value).toArray s 18 24603 A) (F0 m 81 ls []) := by
        have hxy : ∀ i, i < 80 → zb_byt (g2 i) = zb_byt (g3 i) := fun i hi => (hg2 i hi).trans (hg3 i hi).symm
        intro d
        induction d with
        | zero =>
          intro t p hd ht hp H locs ls hP hD hS hl
          refine lv_iload hx hb dX0_elder_81 (lv_at hl 0 rfl) ?_
          refine lv_iconst (v := nI 1) hx hb dX0_elder_83 (by decide) ?_
          refine lv_iadd hx hb dX0_elder_84 ?_
          refine k_is (y := (nI ((20 + 2 * t) + 1))) (nI_add _ _) ?_
          refine lv_aload_n hx hb dX0_elder_85 rfl (lv_at hl 4 rfl) ?_
          refine va_slen hx hb hX hbl hbA hS dX0_elder_86 ?_
          refine k_is (y := (nI L)) (rfl) ?_
          refine k_ge (tgt := 242) hx hb dX0_elder_87 (by decide) (by omega) (by omega) (fun c_11 => ?_) (fun c_11 => absurd c_11 (by omega))
          refine lv_iconst (v := nI 1) hx hb dX0_elder_242 (by decide) ?_
          refine W.widen (k := 18) (n := 24603) (Nat.le_of_ble_eq_true rfl) (Nat.le_of_ble_eq_true rfl) ?_
          exact W.zret (v := (nI 1)) hx hb hr rfl (fun t ht hW => ⟨⟨(nI 1), (), rfl, rfl, trivial⟩, hS.F ht⟩) hS.2.2 dX0_elder_243
        | succ d ih =>
          intro t p hd ht hp H locs ls hP hD hS hl
          refine lv_iload hx hb dX0_elder_81 (lv_at hl 0 rfl) ?_
          refine lv_iconst (v := nI 1) hx hb dX0_elder_83 (by decide) ?_
          refine lv_iadd hx hb dX0_elder_84 ?_
          refine k_is (y := (nI ((20 + 2 * t) + 1))) (nI_add _ _) ?_
          refine lv_aload_n hx hb dX0_elder_85 rfl (lv_at hl 4 rfl) ?_
          refine va_slen hx hb hX hbl hbA hS dX0_elder_86 ?_
          refine k_is (y := (nI L)) (rfl) ?_
          refine k_ge (tgt := 242) hx hb dX0_elder_87 (by decide) (by omega) (by omega) (fun cl => ?_) (fun cl => ?_)
          · refine lv_iconst (v := nI 1) hx hb dX0_elder_242 (by decide) ?_
            refine W.widen (k := 18) (n := 24603) (Nat.le_of_ble_eq_true rfl) (Nat.le_of_ble_eq_true rfl) ?_
            exact W.zret (v := (nI 1)) hx hb hr rfl (fun t ht hW => ⟨⟨(nI 1), (), rfl, rfl, trivial⟩, hS.F ht⟩) hS.2.2 dX0_elder_243
          · have ht2 : t < 10 := by omega
            obtain ⟨a0, ha, ea⟩ := pk_andE (xs (20 + 2 * t)) (m := nI 15) 4 (by decide)
            obtain ⟨b0, hb0, eb⟩ := pk_andE (xs (20 + 2 * t + 1)) (m := nI 15) 4 (by decide)
            refine lv_iconst (v := nI 1) hx hb dX0_elder_90 (by decide) ?_
            refine lv_aload_n hx hb dX0_elder_91 rfl (lv_at hl 4 rfl) ?_
            refine lv_iload hx hb dX0_elder_92 (lv_at hl 0 rfl) ?_
            refine va_sld hx hb hX hbl hbA hS (vp_in_nI (by omega) (by omega)) dX0_elder_94 ?_
            refine k_is (y := (xs (20 + 2 * t))) (congrArg xs (nI_clamp (by omega))) ?_
            refine lv_bipush (v := nI 15) hx hb dX0_elder_95 (by decide) ?_
            refine lv_iand hx hb dX0_elder_97 ?_
            refine k_is (y := (nI a0)) (ea) ?_
            refine lv_iadd hx hb dX0_elder_98 ?_
            refine k_is (y := (nI (1 + a0))) (nI_add _ _) ?_
            refine lv_istore (lv' := [(5, .int (nI (1 + a0))), (4, .int (nI (20 + 2 * t))), (3, .int (nI (640 - p))), (2, .ref q3), (1, .ref q2), (0, .ref b)]) hx hb dX0_elder_99 hl (by decide) rfl (fun ls hl => ?_)
            refine lv_iconst (v := nI 1) hx hb dX0_elder_101 (by decide) ?_
            refine lv_aload_n hx hb dX0_elder_102 rfl (lv_at hl 5 rfl) ?_
            refine lv_iload hx hb dX0_elder_103 (lv_at hl 1 rfl) ?_
            refine lv_iconst (v := nI 1) hx hb dX0_elder_105 (by decide) ?_
            refine lv_iadd hx hb dX0_elder_106 ?_
            refine k_is (y := (nI ((20 + 2 * t) + 1))) (nI_add _ _) ?_
            refine va_sld hx hb hX hbl hbA hS (vp_in_nI (by omega) (by omega)) dX0_elder_107 ?_
            refine k_is (y := (xs ((20 + 2 * t) + 1))) (congrArg xs (nI_clamp (by omega))) ?_
            refine lv_bipush (v := nI 15) hx hb dX0_elder_108 (by decide) ?_
            refine lv_iand hx hb dX0_elder_110 ?_
            refine k_is (y := (nI b0)) (eb) ?_
            refine lv_iadd hx hb dX0_elder_111 ?_
            refine k_is (y := (nI (1 + b0))) (nI_add _ _) ?_
            refine lv_istore (lv' := [(6, .int (nI (1 + b0))), (5, .int (nI (1 + a0))), (4, .int (nI (20 + 2 * t))), (3, .int (nI (640 - p))), (2, .ref q3), (1, .ref q2), (0, .ref b)]) hx hb dX0_elder_112 hl (by decide) rfl (fun ls hl => ?_)
            refine lv_iload hx hb dX0_elder_114 (lv_at hl 1 rfl) ?_
            refine lv_iload hx hb dX0_elder_116 (lv_at hl 0 rfl) ?_
            refine lv_iadd hx hb dX0_elder_118 ?_
            refine k_is (y := (nI ((1 + a0) + (1 + b0)))) (nI_add _ _) ?_
            refine lv_iload_n hx hb dX0_elder_119 rfl (lv_at hl 3 rfl) ?_
            refine k_le (tgt := 141) hx hb dX0_elder_120 (by decide) (by omega) (by omega) (fun c_12 => ?_) (fun c_12 => absurd c_12 (by omega))
            refine lv_aload_n hx hb dX0_elder_141 rfl (lv_at hl 5 rfl) ?_
            refine lv_iload hx hb dX0_elder_142 (lv_at hl 1 rfl) ?_
            refine lv_iconst (v := nI 1) hx hb dX0_elder_144 (by decide) ?_
            refine lv_isub hx hb dX0_elder_145 ?_
            refine k_is (y := (nI ((1 + a0) - 1))) (pk_sub (by omega)) ?_
            refine k_is (y := (nI a0)) (congrArg nI (by omega)) ?_
            refine k_calll (wr := [cR q3 qt3 80 qs3, cT qt3 dB f3, cS qs3 qb3 p, cB qb3 dB 80 g3]) (w2 := fun (u_13 : Unit) => [cR q2 qt2 80 qs2, cT qt2 dB f2, cS qs2 qb2 (p + (a0 + 1)), cB qb2 dB 80 g2, cR q3 qt3 80 qs3, cT qt3 dB f3, cS qs3 qb3 p, cB qb3 dB 80 g3]) (va_runV (As := [.int (nI a0)]) (rest := []) ⟨hx, hb, hml, hown, hts⟩ (m_rd l D dB _ q2 qt2 qs2 qb2 80 f2 p 80 g2 (nI a0) (a0 + 1) (zb_arg (by omega)) (by omega) (by omega)) (cwV 1 hts (lw_V q67 q68 q69 q4 q70) rfl rfl rfl (by decide +kernel) ⟨Nat.le_of_ble_eq_true rfl, Nat.le_of_ble_eq_true rfl⟩) (k_preV (k_Psub (ws' := [cR q2 qt2 80 qs2, cT qt2 dB f2, cS qs2 qb2 p, cB qb2 dB 80 g2]) hP [0, 1, 2, 3] rfl) hK (va_D.sub (ws' := [cR q2 qt2 80 qs2, cT qt2 dB f2, cS qs2 qb2 p, cB qb2 dB 80 g2]) hD [0, 1, 2, 3] (by decide) rfl) 0 0 rfl rfl _) rfl rfl hl.1 rfl (lv_room (Nat.le_of_ble_eq_true rfl)) dX0_elder_146 ⟨Nat.le_of_ble_eq_true rfl, Nat.le_of_ble_eq_true rfl⟩) hP hD hS hA [0, 1, 2, 3] [4, 5, 6, 7] [4, 5, 6, 7, 0, 1, 2, 3] rfl rfl (by decide) (by decide) (fun _ => rfl) (by decide) (fun r_14 u_13 H locs hw_15 hP hD hS => ?_)
            have hP : va_P D vwCl [cR q2 qt2 80 qs2, cT qt2 dB f2, cS qs2 qb2 (p + (a0 + 1)), cB qb2 dB 80 g2, cR q3 qt3 80 qs3, cT qt3 dB f3, cS qs3 qb3 p, cB qb3 dB 80 g3] H := hP
            have hD : va_D A [cR q2 qt2 80 qs2, cT qt2 dB f2, cS qs2 qb2 (p + (a0 + 1)), cB qb2 dB 80 g2, cR q3 qt3 80 qs3, cT qt3 dB f3, cS qs3 qb3 p, cB qb3 dB 80 g3] := hD
            have hw_15 : r_14 = ((nI (zb_num (fun i => zb_byt (g2 i)) p (a0 + 1))).toInt64) := hw_15
            subst hw_15
            refine k_isl (y := (lN (zb_num (fun i => zb_byt (g2 i)) p (a0 + 1)))) (nI_l (zb_num_31 (by omega))) ?_
            refine lv_lstore (lv' := [(7, .long (lN (zb_num (fun i => zb_byt (g2 i)) p (a0 + 1)))), (6, .int (nI (1 + b0))), (5, .int (nI (1 + a0))), (4, .int (nI (20 + 2 * t))), (3, .int (nI (640 - p))), (2, .ref q3), (1, .ref q2), (0, .ref b)]) hx hb dX0_elder_149 hl (by decide) rfl (fun ls hl => ?_)
            refine lv_aload_n hx hb dX0_elder_151 rfl (lv_at hl 6 rfl) ?_
            refine lv_iload hx hb dX0_elder_152 (lv_at hl 1 rfl) ?_
            refine lv_iconst (v := nI 1) hx hb dX0_elder_154 (by decide) ?_
            refine lv_isub hx hb dX0_elder_155 ?_
            refine k_is (y := (nI ((1 + b0) - 1))) (pk_sub (by omega)) ?_
            refine k_is (y := (nI b0)) (congrArg nI (by omega)) ?_
            refine k_calll (wr := [cR q3 qt3 80 qs3, cT qt3 dB f3, cS qs3 qb3 p, cB qb3 dB 80 g3]) (w2 := fun (u_16 : Unit) => [cR q2 qt2 80 qs2, cT qt2 dB f2, cS qs2 qb2 ((p + (a0 + 1)) + (b0 + 1)), cB qb2 dB 80 g2, cR q3 qt3 80 qs3, cT qt3 dB f3, cS qs3 qb3 p, cB qb3 dB 80 g3]) (va_runV (As := [.int (nI b0)]) (rest := []) ⟨hx, hb, hml, hown, hts⟩ (m_rd l D dB _ q2 qt2 qs2 qb2 80 f2 (p + (a0 + 1)) 80 g2 (nI b0) (b0 + 1) (zb_arg (by omega)) (by omega) (by omega)) (cwV 1 hts (lw_V q67 q68 q69 q4 q70) rfl rfl rfl (by decide +kernel) ⟨Nat.le_of_ble_eq_true rfl, Nat.le_of_ble_eq_true rfl⟩) (k_preV (k_Psub (ws' := [cR q2 qt2 80 qs2, cT qt2 dB f2, cS qs2 qb2 (p + (a0 + 1)), cB qb2 dB 80 g2]) hP [0, 1, 2, 3] rfl) hK (va_D.sub (ws' := [cR q2 qt2 80 qs2, cT qt2 dB f2, cS qs2 qb2 (p + (a0 + 1)), cB qb2 dB 80 g2]) hD [0, 1, 2, 3] (by decide) rfl) 0 0 rfl rfl _) rfl rfl hl.1 rfl (lv_room (Nat.le_of_ble_eq_true rfl)) dX0_elder_156 ⟨Nat.le_of_ble_eq_true rfl, Nat.le_of_ble_eq_true rfl⟩) hP hD hS hA [0, 1, 2, 3] [4, 5, 6, 7] [4, 5, 6, 7, 0, 1, 2, 3] rfl rfl (by decide) (by decide) (fun _ => rfl) (by decide) (fun r_17 u_16 H locs hw_18 hP hD hS => ?_)
            have hP : va_P D vwCl [cR q2 qt2 80 qs2, cT qt2 dB f2, cS qs2 qb2 ((p + (a0 + 1)) + (b0 + 1)), cB qb2 dB 80 g2, cR q3 qt3 80 qs3, cT qt3 dB f3, cS qs3 qb3 p, cB qb3 dB 80 g3] H := hP
            have hD : va_D A [cR q2 qt2 80 qs2, cT qt2 dB f2, cS qs2 qb2 ((p + (a0 + 1)) + (b0 + 1)), cB qb2 dB 80 g2, cR q3 qt3 80 qs3, cT qt3 dB f3, cS qs3 qb3 p, cB qb3 dB 80 g3] := hD
            have hw_18 : r_17 = ((nI (zb_num (fun i => zb_byt (g2 i)) (p + (a0 + 1)) (b0 + 1))).toInt64) := hw_18
            subst hw_18
            refine k_isl (y := (lN (zb_num (fun i => zb_byt (g2 i)) (p + (a0 + 1)) (b0 + 1)))) (nI_l (zb_num_31 (by omega))) ?_
            refine lv_lstore (lv' := [(9, .long (lN (zb_num (fun i => zb_byt (g2 i)) (p + (a0 + 1)) (b0 + 1)))), (7, .long (lN (zb_num (fun i => zb_byt (g2 i)) p (a0 + 1)))), (6, .int (nI (1 + b0))), (5, .int (nI (1 + a0))), (4, .int (nI (20 + 2 * t))), (3, .int (nI (640 - p))), (2, .ref q3), (1, .ref q2), (0, .ref b)]) hx hb dX0_elder_159 hl (by decide) rfl (fun ls hl => ?_)
            refine lv_lload hx hb dX0_elder_161 (lv_at hl 1 rfl) ?_
            refine lv_iload hx hb dX0_elder_163 (lv_at hl 2 rfl) ?_
            refine k_is (y := (nI (b0 + 1))) (congrArg nI (by omega)) ?_
            refine lv_lshl hx hb dX0_elder_165 rfl ?_
            refine k_isl (y := (lN ((zb_num (fun i => zb_byt (g2 i)) p (a0 + 1)) * 2 ^ (b0 + 1)))) (zb_lshl (by omega) (Nat.lt_trans (zb_pow (by omega)) (by decide))) ?_
            refine lv_lload hx hb dX0_elder_166 (lv_at hl 0 rfl) ?_
            refine lv_lor hx hb dX0_elder_168 ?_
            refine k_isl (y := (lN (zb_num (fun i => zb_byt (g2 i)) p (a0 + 1 + (b0 + 1))))) ((zb_lor _ (zb_num_lt _ _ _)).trans (congrArg lN (zb_num_add _ _ _ _).symm)) ?_
            refine lv_aload_n hx hb dX0_elder_169 rfl (lv_at hl 6 rfl) ?_
            refine lv_iload hx hb dX0_elder_170 (lv_at hl 3 rfl) ?_
            refine lv_iload hx hb dX0_elder_172 (lv_at hl 2 rfl) ?_
            refine lv_iadd hx hb dX0_elder_174 ?_
            refine k_is (y := (nI ((1 + a0) + (1 + b0)))) (nI_add _ _) ?_
            refine lv_iconst (v := nI 1) hx hb dX0_elder_175 (by decide) ?_
            refine lv_isub hx hb dX0_elder_176 ?_
            refine k_is (y := (nI (((1 + a0) + (1 + b0)) - 1))) (pk_sub (by omega)) ?_
            refine k_is (y := (nI (a0 + 1 + b0))) (congrArg nI (by omega)) ?_
            refine k_calll (wr := [cR q2 qt2 80 qs2, cT qt2 dB f2, cS qs2 qb2 ((p + (a0 + 1)) + (b0 + 1)), cB qb2 dB 80 g2]) (w2 := fun (u_19 : Unit) => [cR q2 qt2 80 qs2, cT qt2 dB f2, cS qs2 qb2 ((p + (a0 + 1)) + (b0 + 1)), cB qb2 dB 80 g2, cR q3 qt3 80 qs3, cT qt3 dB f3, cS qs3 qb3 (p + (a0 + 1 + b0 + 1)), cB qb3 dB 80 g3]) (va_runV (As := [.int (nI (a0 + 1 + b0))]) (rest := [.long (lN (zb_num (fun i => zb_byt (g2 i)) p (a0 + 1 + (b0 + 1))))]) ⟨hx, hb, hml, hown, hts⟩ (m_rd l D dB _ q3 qt3 qs3 qb3 80 f3 p 80 g3 (nI (a0 + 1 + b0)) (a0 + 1 + b0 + 1) (zb_arg (by omega)) (by omega) (by omega)) (cwV 1 hts (lw_V q67 q68 q69 q4 q70) rfl rfl rfl (by decide +kernel) ⟨Nat.le_of_ble_eq_true rfl, Nat.le_of_ble_eq_true rfl⟩) (k_preV (k_Psub (ws' := [cR q3 qt3 80 qs3, cT qt3 dB f3, cS qs3 qb3 p, cB qb3 dB 80 g3]) hP [4, 5, 6, 7] rfl) hK (va_D.sub (ws' := [cR q3 qt3 80 qs3, cT qt3 dB f3, cS qs3 qb3 p, cB qb3 dB 80 g3]) hD [4, 5, 6, 7] (by decide) rfl) 0 0 rfl rfl _) rfl rfl hl.1 rfl (lv_room (Nat.le_of_ble_eq_true rfl)) dX0_elder_177 ⟨Nat.le_of_ble_eq_true rfl, Nat.le_of_ble_eq_true rfl⟩) hP hD hS hA [4, 5, 6, 7] [0, 1, 2, 3] [0, 1, 2, 3, 4, 5, 6, 7] rfl rfl (by decide) (by decide) (fun _ => rfl) (by decide) (fun r_20 u_19 H locs hw_21 hP hD hS => ?_)
            have hP : va_P D vwCl [cR q2 qt2 80 qs2, cT qt2 dB f2, cS qs2 qb2 ((p + (a0 + 1)) + (b0 + 1)), cB qb2 dB 80 g2, cR q3 qt3 80 qs3, cT qt3 dB f3, cS qs3 qb3 (p + (a0 + 1 + b0 + 1)), cB qb3 dB 80 g3] H := hP
            have hD : va_D A [cR q2 qt2 80 qs2, cT qt2 dB f2, cS qs2 qb2 ((p + (a0 + 1)) + (b0 + 1)), cB qb2 dB 80 g2, cR q3 qt3 80 qs3, cT qt3 dB f3, cS qs3 qb3 (p + (a0 + 1 + b0 + 1)), cB qb3 dB 80 g3] := hD
            have hw_21 : r_20 = ((nI (zb_num (fun i => zb_byt (g3 i)) p (a0 + 1 + b0 + 1))).toInt64) := hw_21
            subst hw_21
            refine lv_ldc2 (v := 4294967295) hx hb hown (hts _ q154) dX0_elder_180 ?_
            refine lv_land hx hb dX0_elder_183 ?_
            refine k_isl (y := (lN (zb_num (fun i => zb_byt (g3 i)) p (a0 + 1 + (b0 + 1))))) (zb_unsigned (zb_num_32 (by omega))) ?_
            refine W.lcmp hx hb dX0_elder_184 ?_
            refine k_is (y := (nI 0)) (k_cmp0 (congrArg lN (zb_num_congr hxy _ (by omega)))) ?_
            refine k_eq0 (tgt := 190) hx hb dX0_elder_185 (by decide) (by omega) (fun c_22 => ?_) (fun c_22 => absurd c_22 (by omega))
            refine lv_iload_n hx hb dX0_elder_190 rfl (lv_at hl 5 rfl) ?_
            refine lv_iload hx hb dX0_elder_191 (lv_at hl 3 rfl) ?_
            refine lv_iload hx hb dX0_elder_193 (lv_at hl 2 rfl) ?_
            refine lv_iadd hx hb dX0_elder_195 ?_
            refine k_is (y := (nI ((1 + a0) + (1 + b0)))) (nI_add _ _) ?_
            refine lv_isub hx hb dX0_elder_196 ?_
            refine k_is (y := (nI ((640 - p) - ((1 + a0) + (1 + b0))))) (pk_sub (by omega)) ?_
            refine lv_istore_n (lv' := [(3, .int (nI ((640 - p) - ((1 + a0) + (1 + b0))))), (9, .long (lN (zb_num (fun i => zb_byt (g2 i)) (p + (a0 + 1)) (b0 + 1)))), (7, .long (lN (zb_num (fun i => zb_byt (g2 i)) p (a0 + 1)))), (6, .int (nI (1 + b0))), (5, .int (nI (1 + a0))), (4, .int (nI (20 + 2 * t))), (2, .ref q3), (1, .ref q2), (0, .ref b)]) hx hb dX0_elder_197 rfl hl (by decide) rfl (fun ls hl => ?_)
            refine lv_aload_n hx hb dX0_elder_198 rfl (lv_at hl 7 rfl) ?_
            refine k_calli (wr := [cR q3 qt3 80 qs3, cT qt3 dB f3, cS qs3 qb3 (p + (a0 + 1 + b0 + 1)), cB qb3 dB 80 g3]) (w2 := fun (u_23 : Unit) => [cR q2 qt2 80 qs2, cT qt2 dB f2, cS qs2 qb2 ((p + (a0 + 1)) + (b0 + 1)), cB qb2 dB 80 g2, cR q3 qt3 80 qs3, cT qt3 dB f3, cS qs3 qb3 (p + (a0 + 1 + b0 + 1)), cB qb3 dB 80 g3]) (va_runV (As := []) (rest := []) ⟨hx, hb, hml, hown, hts⟩ (m_left l D dB _ q2 qt2 qs2 qb2 80 f2 ((p + (a0 + 1)) + (b0 + 1)) 80 g2 (by omega) (by omega)) (cwV 0 hts (lw_V q149 q150 q151 q4 q152) rfl rfl rfl (by decide +kernel) ⟨Nat.le_of_ble_eq_true rfl, Nat.le_of_ble_eq_true rfl⟩) (k_preV (k_Psub (ws' := [cR q2 qt2 80 qs2, cT qt2 dB f2, cS qs2 qb2 ((p + (a0 + 1)) + (b0 + 1)), cB qb2 dB 80 g2]) hP [0, 1, 2, 3] rfl) hK (va_D.sub (ws' := [cR q2 qt2 80 qs2, cT qt2 dB f2, cS qs2 qb2 ((p + (a0 + 1)) + (b0 + 1)), cB qb2 dB 80 g2]) hD [0, 1, 2, 3] (by decide) rfl) 0 0 rfl rfl _) rfl rfl hl.1 rfl (lv_room (Nat.le_of_ble_eq_true rfl)) dX0_elder_199 ⟨Nat.le_of_ble_eq_true rfl, Nat.le_of_ble_eq_true rfl⟩) hP hD hS hA [0, 1, 2, 3] [4, 5, 6, 7] [4, 5, 6, 7, 0, 1, 2, 3] rfl rfl (by decide) (by decide) (fun _ => rfl) (by decide) (fun r_24 u_23 H locs hw_25 hP hD hS => ?_)
            have hP : va_P D vwCl [cR q2 qt2 80 qs2, cT qt2 dB f2, cS qs2 qb2 ((p + (a0 + 1)) + (b0 + 1)), cB qb2 dB 80 g2, cR q3 qt3 80 qs3, cT qt3 dB f3, cS qs3 qb3 (p + (a0 + 1 + b0 + 1)), cB qb3 dB 80 g3] H := hP
            have hD : va_D A [cR q2 qt2 80 qs2, cT qt2 dB f2, cS qs2 qb2 ((p + (a0 + 1)) + (b0 + 1)), cB qb2 dB 80 g2, cR q3 qt3 80 qs3, cT qt3 dB f3, cS qs3 qb3 (p + (a0 + 1 + b0 + 1)), cB qb3 dB 80 g3] := hD
            have hw_25 : r_24 = (nI (8 * 80 - ((p + (a0 + 1)) + (b0 + 1)))) := hw_25
            subst hw_25
            refine lv_iload_n hx hb dX0_elder_202 rfl (lv_at hl 0 rfl) ?_
            refine k_ne (tgt := 234) hx hb dX0_elder_203 (by decide) (by omega) (by omega) (fun c_26 => absurd c_26 (by omega)) (fun c_26 => ?_)
            refine lv_aload_n hx hb dX0_elder_206 rfl (lv_at hl 6 rfl) ?_
            refine k_calli (wr := [cR q2 qt2 80 qs2, cT qt2 dB f2, cS qs2 qb2 ((p + (a0 + 1)) + (b0 + 1)), cB qb2 dB 80 g2]) (w2 := fun (u_27 : Unit) => [cR q2 qt2 80 qs2, cT qt2 dB f2, cS qs2 qb2 ((p + (a0 + 1)) + (b0 + 1)), cB qb2 dB 80 g2, cR q3 qt3 80 qs3, cT qt3 dB f3, cS qs3 qb3 (p + (a0 + 1 + b0 + 1)), cB qb3 dB 80 g3]) (va_runV (As := []) (rest := []) ⟨hx, hb, hml, hown, hts⟩ (m_left l D dB _ q3 qt3 qs3 qb3 80 f3 (p + (a0 + 1 + b0 + 1)) 80 g3 (by omega) (by omega)) (cwV 0 hts (lw_V q149 q150 q151 q4 q152) rfl rfl rfl (by decide +kernel) ⟨Nat.le_of_ble_eq_true rfl, Nat.le_of_ble_eq_true rfl⟩) (k_preV (k_Psub (ws' := [cR q3 qt3 80 qs3, cT qt3 dB f3, cS qs3 qb3 (p + (a0 + 1 + b0 + 1)), cB qb3 dB 80 g3]) hP [4, 5, 6, 7] rfl) hK (va_D.sub (ws' := [cR q3 qt3 80 qs3, cT qt3 dB f3, cS qs3 qb3 (p + (a0 + 1 + b0 + 1)), cB qb3 dB 80 g3]) hD [4, 5, 6, 7] (by decide) rfl) 0 0 rfl rfl _) rfl rfl hl.1 rfl (lv_room (Nat.le_of_ble_eq_true rfl)) dX0_elder_207 ⟨Nat.le_of_ble_eq_true rfl, Nat.le_of_ble_eq_true rfl⟩) hP hD hS hA [4, 5, 6, 7] [0, 1, 2, 3] [0, 1, 2, 3, 4, 5, 6, 7] rfl rfl (by decide) (by decide) (fun _ => rfl) (by decide) (fun r_28 u_27 H locs hw_29 hP hD hS => ?_)
            have hP : va_P D vwCl [cR q2 qt2 80 qs2, cT qt2 dB f2, cS qs2 qb2 ((p + (a0 + 1)) + (b0 + 1)), cB qb2 dB 80 g2, cR q3 qt3 80 qs3, cT qt3 dB f3, cS qs3 qb3 (p + (a0 + 1 + b0 + 1)), cB qb3 dB 80 g3] H := hP
            have hD : va_D A [cR q2 qt2 80 qs2, cT qt2 dB f2, cS qs2 qb2 ((p + (a0 + 1)) + (b0 + 1)), cB qb2 dB 80 g2, cR q3 qt3 80 qs3, cT qt3 dB f3, cS qs3 qb3 (p + (a0 + 1 + b0 + 1)), cB qb3 dB 80 g3] := hD
            have hw_29 : r_28 = (nI (8 * 80 - (p + (a0 + 1 + b0 + 1)))) := hw_29
            subst hw_29
            refine lv_iload_n hx hb dX0_elder_210 rfl (lv_at hl 0 rfl) ?_
            refine k_ne (tgt := 234) hx hb dX0_elder_211 (by decide) (by omega) (by omega) (fun c_30 => absurd c_30 (by omega)) (fun c_30 => ?_)
            refine lv_bipush (v := nI 8) hx hb dX0_elder_214 (by decide) ?_
            refine lv_aload_n hx hb dX0_elder_216 rfl (lv_at hl 7 rfl) ?_
            refine k_calli (wr := [cR q3 qt3 80 qs3, cT qt3 dB f3, cS qs3 qb3 (p + (a0 + 1 + b0 + 1)), cB qb3 dB 80 g3]) (w2 := fun (u_31 : Unit) => [cR q2 qt2 80 qs2, cT qt2 dB f2, cS qs2 qb2 ((p + (a0 + 1)) + (b0 + 1)), cB qb2 dB 80 g2, cR q3 qt3 80 qs3, cT qt3 dB f3, cS qs3 qb3 (p + (a0 + 1 + b0 + 1)), cB qb3 dB 80 g3]) (va_runV (As := []) (rest := [.int (nI 8)]) ⟨hx, hb, hml, hown, hts⟩ (m_octet l D dB _ q2 qt2 qs2 qb2 80 f2 ((p + (a0 + 1)) + (b0 + 1)) 80 g2) (cwV 0 hts (lw_V q155 q156 q157 q4 q158) rfl rfl rfl (by decide +kernel) ⟨Nat.le_of_ble_eq_true rfl, Nat.le_of_ble_eq_true rfl⟩) (k_preV (k_Psub (ws' := [cR q2 qt2 80 qs2, cT qt2 dB f2, cS qs2 qb2 ((p + (a0 + 1)) + (b0 + 1)), cB qb2 dB 80 g2]) hP [0, 1, 2, 3] rfl) hK (va_D.sub (ws' := [cR q2 qt2 80 qs2, cT qt2 dB f2, cS qs2 qb2 ((p + (a0 + 1)) + (b0 + 1)), cB qb2 dB 80 g2]) hD [0, 1, 2, 3] (by decide) rfl) 0 0 rfl rfl _) rfl rfl hl.1 rfl (lv_room (Nat.le_of_ble_eq_true rfl)) dX0_elder_217 ⟨Nat.le_of_ble_eq_true rfl, Nat.le_of_ble_eq_true rfl⟩) hP hD hS hA [0, 1, 2, 3] [4, 5, 6, 7] [4, 5, 6, 7, 0, 1, 2, 3] rfl rfl (by decide) (by decide) (fun _ => rfl) (by decide) (fun r_32 u_31 H locs hw_33 hP hD hS => ?_)
            have hP : va_P D vwCl [cR q2 qt2 80 qs2, cT qt2 dB f2, cS qs2 qb2 ((p + (a0 + 1)) + (b0 + 1)), cB qb2 dB 80 g2, cR q3 qt3 80 qs3, cT qt3 dB f3, cS qs3 qb3 (p + (a0 + 1 + b0 + 1)), cB qb3 dB 80 g3] H := hP
            have hD : va_D A [cR q2 qt2 80 qs2, cT qt2 dB f2, cS qs2 qb2 ((p + (a0 + 1)) + (b0 + 1)), cB qb2 dB 80 g2, cR q3 qt3 80 qs3, cT qt3 dB f3, cS qs3 qb3 (p + (a0 + 1 + b0 + 1)), cB qb3 dB 80 g3] := hD
            have hw_33 : r_32 = (nI (((p + (a0 + 1)) + (b0 + 1)) / 8)) := hw_33
            subst hw_33
            refine lv_imul hx hb dX0_elder_220 ?_
            refine k_is (y := (nI (8 * (((p + (a0 + 1)) + (b0 + 1)) / 8)))) (pk_mul _ _) ?_
            refine lv_aload_n hx hb dX0_elder_221 rfl (lv_at hl 7 rfl) ?_
            refine k_calli (wr := [cR q3 qt3 80 qs3, cT qt3 dB f3, cS qs3 qb3 (p + (a0 + 1 + b0 + 1)), cB qb3 dB 80 g3]) (w2 := fun (u_34 : Unit) => [cR q2 qt2 80 qs2, cT qt2 dB f2, cS qs2 qb2 ((p + (a0 + 1)) + (b0 + 1)), cB qb2 dB 80 g2, cR q3 qt3 80 qs3, cT qt3 dB f3, cS qs3 qb3 (p + (a0 + 1 + b0 + 1)), cB qb3 dB 80 g3]) (va_runV (As := []) (rest := [.int (nI (8 * (((p + (a0 + 1)) + (b0 + 1)) / 8)))]) ⟨hx, hb, hml, hown, hts⟩ (m_bits l D dB _ q2 qt2 qs2 qb2 80 f2 ((p + (a0 + 1)) + (b0 + 1)) 80 g2) (cwV 0 hts (lw_V q163 q164 q165 q4 q166) rfl rfl rfl (by decide +kernel) ⟨Nat.le_of_ble_eq_true rfl, Nat.le_of_ble_eq_true rfl⟩) (k_preV (k_Psub (ws' := [cR q2 qt2 80 qs2, cT qt2 dB f2, cS qs2 qb2 ((p + (a0 + 1)) + (b0 + 1)), cB qb2 dB 80 g2]) hP [0, 1, 2, 3] rfl) hK (va_D.sub (ws' := [cR q2 qt2 80 qs2, cT qt2 dB f2, cS qs2 qb2 ((p + (a0 + 1)) + (b0 + 1)), cB qb2 dB 80 g2]) hD [0, 1, 2, 3] (by decide) rfl) 0 0 rfl rfl _) rfl rfl hl.1 rfl (lv_room (Nat.le_of_ble_eq_true rfl)) dX0_elder_222 ⟨Nat.le_of_ble_eq_true rfl, Nat.le_of_ble_eq_true rfl⟩) hP hD hS hA [0, 1, 2, 3] [4, 5, 6, 7] [4, 5, 6, 7, 0, 1, 2, 3] rfl rfl (by decide) (by decide) (fun _ => rfl) (by decide) (fun r_35 u_34 H locs hw_36 hP hD hS => ?_)
            have hP : va_P D vwCl [cR q2 qt2 80 qs2, cT qt2 dB f2, cS qs2 qb2 ((p + (a0 + 1)) + (b0 + 1)), cB qb2 dB 80 g2, cR q3 qt3 80 qs3, cT qt3 dB f3, cS qs3 qb3 (p + (a0 + 1 + b0 + 1)), cB qb3 dB 80 g3] H := hP
            have hD : va_D A [cR q2 qt2 80 qs2, cT qt2 dB f2, cS qs2 qb2 ((p + (a0 + 1)) + (b0 + 1)), cB qb2 dB 80 g2, cR q3 qt3 80 qs3, cT qt3 dB f3, cS qs3 qb3 (p + (a0 + 1 + b0 + 1)), cB qb3 dB 80 g3] := hD
            have hw_36 : r_35 = (nI (((p + (a0 + 1)) + (b0 + 1)) % 8)) := hw_36
            subst hw_36
            refine lv_iadd hx hb dX0_elder_225 ?_
            refine k_is (y := (nI ((8 * (((p + (a0 + 1)) + (b0 + 1)) / 8)) + (((p + (a0 + 1)) + (b0 + 1)) % 8)))) (nI_add _ _) ?_
            refine lv_sipush (v := nI 640) hx hb dX0_elder_226 (by decide) ?_
            refine lv_iload_n hx hb dX0_elder_229 rfl (lv_at hl 0 rfl) ?_
            refine lv_isub hx hb dX0_elder_230 ?_
            refine k_is (y := (nI (640 - ((640 - p) - ((1 + a0) + (1 + b0)))))) (pk_sub (by omega)) ?_
            refine k_eq (tgt := 236) hx hb dX0_elder_231 (by decide) (by omega) (by omega) (fun c_37 => ?_) (fun c_37 => absurd c_37 (by omega))
            refine lv_iinc (v := (nI ((20 + 2 * t) + 2))) (lv' := [(4, .int (nI ((20 + 2 * t) + 2))), (3, .int (nI ((640 - p) - ((1 + a0) + (1 + b0))))), (9, .long (lN (zb_num (fun i => zb_byt (g2 i)) (p + (a0 + 1)) (b0 + 1)))), (7, .long (lN (zb_num (fun i => zb_byt (g2 i)) p (a0 + 1)))), (6, .int (nI (1 + b0))), (5, .int (nI (1 + a0))), (2, .ref q3), (1, .ref q2), (0, .ref b)]) hx hb dX0_elder_236 hl (k := 5) rfl (nI_add (20 + 2 * t) 2) (by decide) rfl (fun ls hl => ?_)
            refine lv_goto (tgt := 81) hx hb dX0_elder_239 (by decide) ?_
            have e1 : p + (a0 + 1) + (b0 + 1) = p + (a0 + 1 + b0 + 1) := by omega
            rw [e1] at hP hD
            have e2 : (640 - p) - ((1 + a0) + (1 + b0)) = 640 - (p + (a0 + 1 + b0 + 1)) := by omega
            have e3 : (20 + 2 * t) + 2 = 20 + 2 * (t + 1) := by omega
            rw [e2, e3] at hl
            exact ih (t + 1) (p + (a0 + 1 + b0 + 1)) (by omega) (by omega) (by omega) H locs ls hP hD hS (lv_sub hl [0, 1, 6, 7, 8] rfl)
      exact hpair 10 0 0 (Nat.le_refl _) (Nat.zero_le _) (Nat.zero_le _) H _ ls hP hD hS (lv_sub hl [0, 1, 2, 3, 4] rfl)
    intro d
    induction d with
    | zero =>
      intro i hd hi H locs ls hP hD hS hl
      refine lv_iload_n hx hb dX0_elder_7 rfl (lv_at hl 0 rfl) ?_
      refine lv_bipush (v := nI 80) hx hb dX0_elder_8 (by decide) ?_
      refine k_ge (tgt := 53) hx hb dX0_elder_10 (by decide) (by omega) (by omega) (fun c_38 => ?_) (fun c_38 => absurd c_38 (by omega))
      exact hrest H locs ls (k_Psub hP [] rfl) (va_D.sub hD [] (by decide) rfl) hS (lv_sub hl [2] rfl)
    | succ d ih =>
      intro i hd hi H locs ls hP hD hS hl
      refine lv_iload_n hx hb dX0_elder_7 rfl (lv_at hl 0 rfl) ?_
      refine lv_bipush (v := nI 80) hx hb dX0_elder_8 (by decide) ?_
      refine k_ge (tgt := 53) hx hb dX0_elder_10 (by decide) (by omega) (by omega) (fun cl => ?_) (fun cl => ?_)
      · exact hrest H locs ls (k_Psub hP [] rfl) (va_D.sub hD [] (by decide) rfl) hS (lv_sub hl [2] rfl)
      · refine lv_aload_n hx hb dX0_elder_13 rfl (lv_at hl 1 rfl) ?_
        refine lv_bipush (v := nI 7) hx hb dX0_elder_14 (by decide) ?_
        refine k_calll (wr := []) (w2 := fun (u_39 : Unit) => [cR q1 qt1 80 qs1, cT qt1 dB f1, cS qs1 qb1 ((8 * i) + 8), cB qb1 dB 80 g1]) (va_runV (As := [.int (nI 7)]) (rest := []) ⟨hx, hb, hml, hown, hts⟩ (m_rd l D dB _ q1 qt1 qs1 qb1 80 f1 (8 * i) 80 g1 (nI 7) 8 (by decide) (by omega) (by omega)) (cwV 1 hts (lw_V q67 q68 q69 q4 q70) rfl rfl rfl (by decide +kernel) ⟨Nat.le_of_ble_eq_true rfl, Nat.le_of_ble_eq_true rfl⟩) (k_preV (k_Psub (ws' := [cR q1 qt1 80 qs1, cT qt1 dB f1, cS qs1 qb1 (8 * i), cB qb1 dB 80 g1]) hP [0, 1, 2, 3] rfl) hK (va_D.sub (ws' := [cR q1 qt1 80 qs1, cT qt1 dB f1, cS qs1 qb1 (8 * i), cB qb1 dB 80 g1]) hD [0, 1, 2, 3] (by decide) rfl) 0 0 rfl rfl _) rfl rfl hl.1 rfl (lv_room (Nat.le_of_ble_eq_true rfl)) dX0_elder_16 ⟨Nat.le_of_ble_eq_true rfl, Nat.le_of_ble_eq_true rfl⟩) hP hD hS hA [0, 1, 2, 3] [] [0, 1, 2, 3] rfl rfl (by decide) (by decide) (fun _ => rfl) (by decide) (fun r_40 u_39 H locs hw_41 hP hD hS => ?_)
        have hP : va_P D vwCl [cR q1 qt1 80 qs1, cT qt1 dB f1, cS qs1 qb1 ((8 * i) + 8), cB qb1 dB 80 g1] H := hP
        have hD : va_D A [cR q1 qt1 80 qs1, cT qt1 dB f1, cS qs1 qb1 ((8 * i) + 8), cB qb1 dB 80 g1] := hD
        have hw_41 : r_40 = ((nI (zb_num (fun i => zb_byt (g1 i)) (8 * i) 8)).toInt64) := hw_41
        subst hw_41
        refine lv_aload_n hx hb dX0_elder_19 rfl (lv_at hl 2 rfl) ?_
        refine lv_iload_n hx hb dX0_elder_20 rfl (lv_at hl 0 rfl) ?_
        refine lv_iconst (v := nI 4) hx hb dX0_elder_21 (by decide) ?_
        refine lv_idiv hx hb dX0_elder_22 (nI_ne0 (by omega) (by omega)) ?_
        refine k_is (y := (nI (i / 4))) (pk_div (by omega) (by omega) (by omega)) ?_
        refine k_callx (va_runS (As := [.ref b, .int (nI (i / 4))]) (rest := [.long ((nI (zb_num (fun i => zb_byt (g1 i)) (8 * i) 8)).toInt64)]) ⟨hx, hb, hml, hown, hts⟩ (m_cell l D dB _ b L xs (i / 4) hL (by omega)) (va_cwS 2 hts (lw_S q52 q53 q3 q54) rfl rfl rfl (by decide +kernel) ⟨Nat.le_of_ble_eq_true rfl, Nat.le_of_ble_eq_true rfl⟩) (k_preX hK hX hbl hbA hS _) rfl rfl hl.1 rfl (lv_room (Nat.le_of_ble_eq_true rfl)) dX0_elder_23 ⟨Nat.le_of_ble_eq_true rfl, Nat.le_of_ble_eq_true rfl⟩) hP hS hA (fun r_43 u_42 H locs hw_44 hP hS => ?_)
        have hP : va_P D vwCl [cR q1 qt1 80 qs1, cT qt1 dB f1, cS qs1 qb1 ((8 * i) + 8), cB qb1 dB 80 g1] H := hP
        have hw_44 : r_43 = (zb_cel L xs (i / 4)) := hw_44
        subst hw_44
        refine lv_bipush (v := nI 24) hx hb dX0_elder_26 (by decide) ?_
        refine lv_bipush (v := nI 8) hx hb dX0_elder_28 (by decide) ?_
        refine lv_iload_n hx hb dX0_elder_30 rfl (lv_at hl 0 rfl) ?_
        refine lv_iconst (v := nI 4) hx hb dX0_elder_31 (by decide) ?_
        refine lv_irem hx hb dX0_elder_32 (nI_ne0 (by omega) (by omega)) ?_
        refine k_is (y := (nI (i % 4))) (pk_rem (by omega) (by omega) (by omega)) ?_
        refine lv_imul hx hb dX0_elder_33 ?_
        refine k_is (y := (nI (8 * (i % 4)))) (pk_mul _ _) ?_
        refine lv_isub hx hb dX0_elder_34 ?_
        refine k_is (y := (nI (24 - (8 * (i % 4))))) (pk_sub (by omega)) ?_
        refine lv_iushr hx hb dX0_elder_35 rfl ?_
        refine lv_sipush (v := nI 255) hx hb dX0_elder_36 (by decide) ?_
        refine lv_iand hx hb dX0_elder_39 ?_
        refine k_is (y := (nI (zb_sb L xs i))) (zb_ush255 _ (by omega)) ?_
        refine lv_i2l hx hb dX0_elder_40 rfl ?_
        refine W.lcmp hx hb dX0_elder_41 ?_
        refine k_is (y := (nI 0)) (k_cmp0 (congrArg (fun z => (nI z).toInt64) (zb_read8 hg1 cl))) ?_
        refine k_eq0 (tgt := 47) hx hb dX0_elder_42 (by decide) (by omega) (fun c_45 => ?_) (fun c_45 => absurd c_45 (by omega))
        refine lv_iinc (v := (nI (i + 1))) (lv' := [(2, .int (nI (i + 1))), (1, .ref q1), (0, .ref b)]) hx hb dX0_elder_47 hl (k := 0) rfl (nI_add i 1) (by decide) rfl (fun ls hl => ?_)
        refine lv_goto (tgt := 7) hx hb dX0_elder_50 (by decide) ?_
        have e1 : 8 * i + 8 = 8 * (i + 1) := by omega
        rw [e1] at hP hD
        exact ih (i + 1) (by omega) (by omega) H locs ls hP hD hS (lv_sub hl [0, 1, 2] rfl)
  exact hloop 80 0 (Nat.le_refl _) (Nat.zero_le _) H _ ls hP hD hS (lv_sub hl [0, 1, 2] rfl)
end
section
/-! askedWhole(s): pieces of 1 to 32 bits to the text's end -/
set_option maxRecDepth 100000
theorem zb_arg2 {j k : Nat} (h : j < 32) (h2 : k < 2 ^ 20) : (nI (j + 32 * k)).toBitVec.toNat % 32 + 1 = j + 1 := by
  rw [pk_tn (by omega)]
  omega
theorem zb_due {T : Nat → Nat} {p u : Nat} : lN (zb_num T p u * 2 ^ 1) ||| lN (zb_bit T (p + u)) = lN (zb_num T p (u + 1)) := by
  rw [zb_lor (r := 1) _ (zb_bit_lt T (p + u)), zb_num_s, Nat.pow_one, Nat.mul_comm]
set_option maxHeartbeats 4000000 in
set_option maxRecDepth 100000 in
/-- askedWhole(s) answers true -/
theorem m_whole (l : Launch) (D : va_G) (dB : ClassId) (sz : Nat) (b L : Nat) (xs : Nat → Int32) (hL : L ≤ 40) : Met l yX0_askedWhole (ws_ yX0_askedWhole cX0_askedWhole 10 (some .boolean)) ({ frames := 4, cells := 6, slots := 8201, locals := 110 }) (k_Px D [(dB, .byte)] [.ref b] b L xs sz) (va_Qi (fun (r : Int32) (_ : Unit) => r = nI 1) (fun (_ : Unit) (_ : State) => True) (va_A [] sz)) 6 8201 (va_A [] sz) := by
  refine Met.ofW (cc := cX0_askedWhole) (maxL := 10) (ret := (some .boolean)) (by decide) rfl ?_
  intro pg e s m args below meth c s₁ B hml hv
  obtain ⟨rfl, hsz, hK, hX, hbl⟩ := hv
  have hx := B.exec
  have hb := B.bytes
  have hr := B.returns
  have hts := atoms_spec (ws := (ws_ yX0_askedWhole cX0_askedWhole 10 (some .boolean))) B.pre
  have hts : ∀ w ∈ lw_all, w.before _ s = true := fun w h => hts w (List.mem_cons_of_mem _ h)
  have hown : s.vm.findClass RX0 = some m.cls := findClass_of_methodNamed B.named
  have hlocks := B.notSynchronized
  subst hsz
  have hP : va_P D vwCl [] s.heap := fun k q h => by simp at h
  have hD : va_D (va_A [] s.heap.size) [] := ⟨fun i j p q h => by simp at h, fun k q h => by simp at h⟩
  have hbA : ¬ va_A [] s.heap.size b := k_bA hbl
  generalize hAe : va_A [] s.heap.size = A at hD hbA ⊢
  have hA : ∀ q : Nat, s.heap.size ≤ q → A q := fun q h => by rw [← hAe]; exact Or.inr h
  have hS : va_S A s.heap s.heap [] := va_S.rf
  have hl := lv_entry ([.ref b]) (n := 10) (Nat.le_of_ble_eq_true rfl)
  rw [lg_entry_eq]
  generalize (lg_sl ([.ref b]) ++ List.replicate (10 - (lg_sl ([.ref b])).length) Slot.unset).toArray = ls at hl ⊢
  have hl : lv_has ls 10 [(0, .ref b)] := hl
  refine lv_aload_n hx hb dX0_askedWhole_0 rfl (lv_at hl 0 rfl) ?_
  refine k_callr (va_runS (As := [.ref b]) (rest := []) ⟨hx, hb, hml, hown, hts⟩ (m_amade l D dB _ b L xs hL) (va_cwS 1 hts (lw_S q174 q175 q3 q176) rfl rfl rfl (by decide +kernel) ⟨Nat.le_of_ble_eq_true rfl, Nat.le_of_ble_eq_true rfl⟩) (k_preX hK hX hbl hbA hS _) rfl rfl hl.1 rfl (lv_room (Nat.le_of_ble_eq_true rfl)) dX0_askedWhole_1 ⟨Nat.le_of_ble_eq_true rfl, Nat.le_of_ble_eq_true rfl⟩) hP hD hS hA [] rfl (by decide) (fun u_1 q1 H locs hw_2 hP hD hS => ?_)
  obtain ⟨qt1, qs1, qb1, f1⟩ := u_1
  have hP : va_P D vwCl [cR q1 qt1 80 qs1, cT qt1 dB f1, cS qs1 qb1 0, cB qb1 dB 0 (fun _ => 0)] H := hP
  have hD : va_D A [cR q1 qt1 80 qs1, cT qt1 dB f1, cS qs1 qb1 0, cB qb1 dB 0 (fun _ => 0)] := hD
  have hw_2 : ∀ i, i < 80 → zb_byt (f1 i) = zb_sb L xs i := hw_2
  have hf1 := hw_2
  refine lv_astore_n (lv' := [(1, .ref q1), (0, .ref b)]) hx hb dX0_askedWhole_4 rfl hl (by decide) rfl (fun ls hl => ?_)
  refine lv_aload_n hx hb dX0_askedWhole_5 rfl (lv_at hl 0 rfl) ?_
  refine k_callv (wr := []) (w2 := fun (u_3 : Nat × Nat × (Nat → Int32)) => [cR q1 qt1 80 u_3.1, cT qt1 dB f1, cS u_3.1 u_3.2.1 0, cB u_3.2.1 dB 80 u_3.2.2]) (va_runV (As := []) (rest := []) ⟨hx, hb, hml, hown, hts⟩ (m_begin l D dB _ q1 qt1 qs1 qb1 80 f1 0 0 (fun _ => 0) (by omega)) (cwV 0 hts (lw_V q63 q64 q65 q4 q66) rfl rfl rfl (by decide +kernel) ⟨Nat.le_of_ble_eq_true rfl, Nat.le_of_ble_eq_true rfl⟩) (k_preV (k_Psub (ws' := [cR q1 qt1 80 qs1, cT qt1 dB f1, cS qs1 qb1 0, cB qb1 dB 0 (fun _ => 0)]) hP [0, 1, 2, 3] rfl) hK (va_D.sub (ws' := [cR q1 qt1 80 qs1, cT qt1 dB f1, cS qs1 qb1 0, cB qb1 dB 0 (fun _ => 0)]) hD [0, 1, 2, 3] (by decide) rfl) 0 0 rfl rfl _) rfl rfl hl.1 rfl (lv_room (Nat.le_of_ble_eq_true rfl)) dX0_askedWhole_6 ⟨Nat.le_of_ble_eq_true rfl, Nat.le_of_ble_eq_true rfl⟩) hP hD hS hA [0, 1, 2, 3] [] [0, 1, 2, 3] rfl rfl (by decide) (by decide) (fun _ => rfl) (by decide) (fun u_3 H locs hw_5 hP hD hS => ?_)
  obtain ⟨sq1, sb1, sg1⟩ := u_3
  have hP : va_P D vwCl [cR q1 qt1 80 sq1, cT qt1 dB f1, cS sq1 sb1 0, cB sb1 dB 80 sg1] H := hP
  have hD : va_D A [cR q1 qt1 80 sq1, cT qt1 dB f1, cS sq1 sb1 0, cB sb1 dB 80 sg1] := hD
  have hw_5 : ∀ j, j < 80 → zb_byt (sg1 j) = zb_byt (f1 j) := hw_5
  have hg1 := hw_5
  refine lv_iconst (v := nI 0) hx hb dX0_askedWhole_9 (by decide) ?_
  refine lv_istore_n (lv' := [(2, .int (nI 0)), (1, .ref q1), (0, .ref b)]) hx hb dX0_askedWhole_10 rfl hl (by decide) rfl (fun ls hl => ?_)
  refine lv_iconst (v := nI 0) hx hb dX0_askedWhole_11 (by decide) ?_
  refine lv_istore_n (lv' := [(3, .int (nI 0)), (2, .int (nI 0)), (1, .ref q1), (0, .ref b)]) hx hb dX0_askedWhole_12 rfl hl (by decide) rfl (fun ls hl => ?_)
  have hgs : ∀ i, i < 80 → zb_byt (sg1 i) = zb_sb L xs i := fun i hi => (hg1 i hi).trans (hf1 i hi)
  have hloop : ∀ (d p k : Nat), 640 - p ≤ d → p ≤ 640 → k ≤ p → ∀ (H : Heap) (locs : List Loc) (ls : Array Slot), va_P D vwCl [cR q1 qt1 80 sq1, cT qt1 dB f1, cS sq1 sb1 p, cB sb1 dB 80 sg1] H → va_D A [cR q1 qt1 80 sq1, cT qt1 dB f1, cS sq1 sb1 p, cB sb1 dB 80 sg1] → va_S A s.heap H locs → lv_has ls 10 [(3, .int (nI k)), (2, .int (nI p)), (1, .ref q1), (0, .ref b)] → W pg l e (headSpec (ws_ yX0_askedWhole cX0_askedWhole 10 (some .boolean)) ({ frames := 4, cells := 6, slots := 8201, locals := 110 })).room s m ([.ref b] : List Value).toArray below meth c H locs 6 8201 (MQ below (va_Qi (fun (r : Int32) (_ : Unit) => r = nI 1) (fun (_ : Unit) (_ : State) => True) A) ([.ref b] : List Value).toArray s 6 8201 A) (F0 m 13 ls []) := by
    intro d
    induction d with
    | zero =>
      intro p k hd hp hk H locs ls hP hD hS hl
      refine lv_iload_n hx hb dX0_askedWhole_13 rfl (lv_at hl 1 rfl) ?_
      refine lv_sipush (v := nI 640) hx hb dX0_askedWhole_14 (by decide) ?_
      refine k_ge (tgt := 243) hx hb dX0_askedWhole_17 (by decide) (by omega) (by omega) (fun c_6 => ?_) (fun c_6 => absurd c_6 (by omega))
      have ep : p = 640 := by omega
      rw [ep] at hP hD
      have hP : va_P D vwCl [cR q1 qt1 80 sq1, cT qt1 dB f1, cS sq1 sb1 640, cB sb1 dB 80 sg1] H := hP
      have hD : va_D A [cR q1 qt1 80 sq1, cT qt1 dB f1, cS sq1 sb1 640, cB sb1 dB 80 sg1] := hD
      refine lv_aload_n hx hb dX0_askedWhole_243 rfl (lv_at hl 2 rfl) ?_
      refine k_calli (wr := []) (w2 := fun (u_7 : Unit) => [cR q1 qt1 80 sq1, cT qt1 dB f1, cS sq1 sb1 640, cB sb1 dB 80 sg1]) (va_runV (As := []) (rest := []) ⟨hx, hb, hml, hown, hts⟩ (m_left l D dB _ q1 qt1 sq1 sb1 80 f1 640 80 sg1 (by omega) (by omega)) (cwV 0 hts (lw_V q149 q150 q151 q4 q152) rfl rfl rfl (by decide +kernel) ⟨Nat.le_of_ble_eq_true rfl, Nat.le_of_ble_eq_true rfl⟩) (k_preV (k_Psub (ws' := [cR q1 qt1 80 sq1, cT qt1 dB f1, cS sq1 sb1 640, cB sb1 dB 80 sg1]) hP [0, 1, 2, 3] rfl) hK (va_D.sub (ws' := [cR q1 qt1 80 sq1, cT qt1 dB f1, cS sq1 sb1 640, cB sb1 dB 80 sg1]) hD [0, 1, 2, 3] (by decide) rfl) 0 0 rfl rfl _) rfl rfl hl.1 rfl (lv_room (Nat.le_of_ble_eq_true rfl)) dX0_askedWhole_244 ⟨Nat.le_of_ble_eq_true rfl, Nat.le_of_ble_eq_true rfl⟩) hP hD hS hA [0, 1, 2, 3] [] [0, 1, 2, 3] rfl rfl (by decide) (by decide) (fun _ => rfl) (by decide) (fun r_8 u_7 H locs hw_9 hP hD hS => ?_)
      have hP : va_P D vwCl [cR q1 qt1 80 sq1, cT qt1 dB f1, cS sq1 sb1 640, cB sb1 dB 80 sg1] H := hP
      have hD : va_D A [cR q1 qt1 80 sq1, cT qt1 dB f1, cS sq1 sb1 640, cB sb1 dB 80 sg1] := hD
      have hw_9 : r_8 = (nI (8 * 80 - 640)) := hw_9
      subst hw_9
      refine k_ne0 (tgt := 304) hx hb dX0_askedWhole_247 (by decide) (by omega) (fun c_10 => absurd c_10 (by omega)) (fun c_10 => ?_)
      refine lv_aload_n hx hb dX0_askedWhole_250 rfl (lv_at hl 2 rfl) ?_
      refine k_calli (wr := []) (w2 := fun (u_11 : Unit) => [cR q1 qt1 80 sq1, cT qt1 dB f1, cS sq1 sb1 640, cB sb1 dB 80 sg1]) (va_runV (As := []) (rest := []) ⟨hx, hb, hml, hown, hts⟩ (m_octet l D dB _ q1 qt1 sq1 sb1 80 f1 640 80 sg1) (cwV 0 hts (lw_V q155 q156 q157 q4 q158) rfl rfl rfl (by decide +kernel) ⟨Nat.le_of_ble_eq_true rfl, Nat.le_of_ble_eq_true rfl⟩) (k_preV (k_Psub (ws' := [cR q1 qt1 80 sq1, cT qt1 dB f1, cS sq1 sb1 640, cB sb1 dB 80 sg1]) hP [0, 1, 2, 3] rfl) hK (va_D.sub (ws' := [cR q1 qt1 80 sq1, cT qt1 dB f1, cS sq1 sb1 640, cB sb1 dB 80 sg1]) hD [0, 1, 2, 3] (by decide) rfl) 0 0 rfl rfl _) rfl rfl hl.1 rfl (lv_room (Nat.le_of_ble_eq_true rfl)) dX0_askedWhole_251 ⟨Nat.le_of_ble_eq_true rfl, Nat.le_of_ble_eq_true rfl⟩) hP hD hS hA [0, 1, 2, 3] [] [0, 1, 2, 3] rfl rfl (by decide) (by decide) (fun _ => rfl) (by decide) (fun r_12 u_11 H locs hw_13 hP hD hS => ?_)
      have hP : va_P D vwCl [cR q1 qt1 80 sq1, cT qt1 dB f1, cS sq1 sb1 640, cB sb1 dB 80 sg1] H := hP
      have hD : va_D A [cR q1 qt1 80 sq1, cT qt1 dB f1, cS sq1 sb1 640, cB sb1 dB 80 sg1] := hD
      have hw_13 : r_12 = (nI (640 / 8)) := hw_13
      subst hw_13
      refine lv_bipush (v := nI 80) hx hb dX0_askedWhole_254 (by decide) ?_
      refine k_ne (tgt := 304) hx hb dX0_askedWhole_256 (by decide) (by omega) (by omega) (fun c_14 => absurd c_14 (by omega)) (fun c_14 => ?_)
      refine lv_aload_n hx hb dX0_askedWhole_259 rfl (lv_at hl 2 rfl) ?_
      refine k_calli (wr := []) (w2 := fun (u_15 : Unit) => [cR q1 qt1 80 sq1, cT qt1 dB f1, cS sq1 sb1 640, cB sb1 dB 80 sg1]) (va_runV (As := []) (rest := []) ⟨hx, hb, hml, hown, hts⟩ (m_bits l D dB _ q1 qt1 sq1 sb1 80 f1 640 80 sg1) (cwV 0 hts (lw_V q163 q164 q165 q4 q166) rfl rfl rfl (by decide +kernel) ⟨Nat.le_of_ble_eq_true rfl, Nat.le_of_ble_eq_true rfl⟩) (k_preV (k_Psub (ws' := [cR q1 qt1 80 sq1, cT qt1 dB f1, cS sq1 sb1 640, cB sb1 dB 80 sg1]) hP [0, 1, 2, 3] rfl) hK (va_D.sub (ws' := [cR q1 qt1 80 sq1, cT qt1 dB f1, cS sq1 sb1 640, cB sb1 dB 80 sg1]) hD [0, 1, 2, 3] (by decide) rfl) 0 0 rfl rfl _) rfl rfl hl.1 rfl (lv_room (Nat.le_of_ble_eq_true rfl)) dX0_askedWhole_260 ⟨Nat.le_of_ble_eq_true rfl, Nat.le_of_ble_eq_true rfl⟩) hP hD hS hA [0, 1, 2, 3] [] [0, 1, 2, 3] rfl rfl (by decide) (by decide) (fun _ => rfl) (by decide) (fun r_16 u_15 H locs hw_17 hP hD hS => ?_)
      have hP : va_P D vwCl [cR q1 qt1 80 sq1, cT qt1 dB f1, cS sq1 sb1 640, cB sb1 dB 80 sg1] H := hP
      have hD : va_D A [cR q1 qt1 80 sq1, cT qt1 dB f1, cS sq1 sb1 640, cB sb1 dB 80 sg1] := hD
      have hw_17 : r_16 = (nI (640 % 8)) := hw_17
      subst hw_17
      refine k_ne0 (tgt := 304) hx hb dX0_askedWhole_263 (by decide) (by omega) (fun c_18 => absurd c_18 (by omega)) (fun c_18 => ?_)
      refine lv_aload_n hx hb dX0_askedWhole_266 rfl (lv_at hl 2 rfl) ?_
      refine lv_iconst (v := nI 0) hx hb dX0_askedWhole_267 (by decide) ?_
      refine k_calll (wr := []) (w2 := fun (u_19 : Unit) => [cR q1 qt1 80 sq1, cT qt1 dB f1, cS sq1 sb1 640, cB sb1 dB 80 sg1]) (va_runV (As := [.int (nI 0)]) (rest := []) ⟨hx, hb, hml, hown, hts⟩ (m_rdNo l D dB _ q1 qt1 sq1 sb1 80 f1 640 80 sg1 (nI 0) 1 (by decide) (by omega) (by omega) (by omega)) (cwV 1 hts (lw_V q67 q68 q69 q4 q70) rfl rfl rfl (by decide +kernel) ⟨Nat.le_of_ble_eq_true rfl, Nat.le_of_ble_eq_true rfl⟩) (k_preV (k_Psub (ws' := [cR q1 qt1 80 sq1, cT qt1 dB f1, cS sq1 sb1 640, cB sb1 dB 80 sg1]) hP [0, 1, 2, 3] rfl) hK (va_D.sub (ws' := [cR q1 qt1 80 sq1, cT qt1 dB f1, cS sq1 sb1 640, cB sb1 dB 80 sg1]) hD [0, 1, 2, 3] (by decide) rfl) 0 0 rfl rfl _) rfl rfl hl.1 rfl (lv_room (Nat.le_of_ble_eq_true rfl)) dX0_askedWhole_268 ⟨Nat.le_of_ble_eq_true rfl, Nat.le_of_ble_eq_true rfl⟩) hP hD hS hA [0, 1, 2, 3] [] [0, 1, 2, 3] rfl rfl (by decide) (by decide) (fun _ => rfl) (by decide) (fun r_20 u_19 H locs hw_21 hP hD hS => ?_)
      have hP : va_P D vwCl [cR q1 qt1 80 sq1, cT qt1 dB f1, cS sq1 sb1 640, cB sb1 dB 80 sg1] H := hP
      have hD : va_D A [cR q1 qt1 80 sq1, cT qt1 dB f1, cS sq1 sb1 640, cB sb1 dB 80 sg1] := hD
      have hw_21 : r_20 = 4294967296 := hw_21
      subst hw_21
      refine lv_ldc2 (v := 4294967296) hx hb hown (hts _ q153) dX0_askedWhole_271 ?_
      refine W.lcmp hx hb dX0_askedWhole_274 ?_
      refine k_is (y := (nI 0)) (k_cmp0 (rfl)) ?_
      refine k_ne0 (tgt := 304) hx hb dX0_askedWhole_275 (by decide) (by omega) (fun c_22 => absurd c_22 (by omega)) (fun c_22 => ?_)
      refine lv_aload_n hx hb dX0_askedWhole_278 rfl (lv_at hl 2 rfl) ?_
      refine lv_bipush (v := nI 31) hx hb dX0_askedWhole_279 (by decide) ?_
      refine k_calll (wr := []) (w2 := fun (u_23 : Unit) => [cR q1 qt1 80 sq1, cT qt1 dB f1, cS sq1 sb1 640, cB sb1 dB 80 sg1]) (va_runV (As := [.int (nI 31)]) (rest := []) ⟨hx, hb, hml, hown, hts⟩ (m_rdNo l D dB _ q1 qt1 sq1 sb1 80 f1 640 80 sg1 (nI 31) 32 (by decide) (by omega) (by omega) (by omega)) (cwV 1 hts (lw_V q67 q68 q69 q4 q70) rfl rfl rfl (by decide +kernel) ⟨Nat.le_of_ble_eq_true rfl, Nat.le_of_ble_eq_true rfl⟩) (k_preV (k_Psub (ws' := [cR q1 qt1 80 sq1, cT qt1 dB f1, cS sq1 sb1 640, cB sb1 dB 80 sg1]) hP [0, 1, 2, 3] rfl) hK (va_D.sub (ws' := [cR q1 qt1 80 sq1, cT qt1 dB f1, cS sq1 sb1 640, cB sb1 dB 80 sg1]) hD [0, 1, 2, 3] (by decide) rfl) 0 0 rfl rfl _) rfl rfl hl.1 rfl (lv_room (Nat.le_of_ble_eq_true rfl)) dX0_askedWhole_281 ⟨Nat.le_of_ble_eq_true rfl, Nat.le_of_ble_eq_true rfl⟩) hP hD hS hA [0, 1, 2, 3] [] [0, 1, 2, 3] rfl rfl (by decide) (by decide) (fun _ => rfl) (by decide) (fun r_24 u_23 H locs hw_25 hP hD hS => ?_)
      have hP : va_P D vwCl [cR q1 qt1 80 sq1, cT qt1 dB f1, cS sq1 sb1 640, cB sb1 dB 80 sg1] H := hP
      have hD : va_D A [cR q1 qt1 80 sq1, cT qt1 dB f1, cS sq1 sb1 640, cB sb1 dB 80 sg1] := hD
      have hw_25 : r_24 = 4294967296 := hw_25
      subst hw_25
      refine lv_ldc2 (v := 4294967296) hx hb hown (hts _ q153) dX0_askedWhole_284 ?_
      refine W.lcmp hx hb dX0_askedWhole_287 ?_
      refine k_is (y := (nI 0)) (k_cmp0 (rfl)) ?_
      refine k_ne0 (tgt := 304) hx hb dX0_askedWhole_288 (by decide) (by omega) (fun c_26 => absurd c_26 (by omega)) (fun c_26 => ?_)
      refine lv_aload_n hx hb dX0_askedWhole_291 rfl (lv_at hl 2 rfl) ?_
      refine k_calli (wr := []) (w2 := fun (u_27 : Unit) => [cR q1 qt1 80 sq1, cT qt1 dB f1, cS sq1 sb1 640, cB sb1 dB 80 sg1]) (va_runV (As := []) (rest := []) ⟨hx, hb, hml, hown, hts⟩ (m_octet l D dB _ q1 qt1 sq1 sb1 80 f1 640 80 sg1) (cwV 0 hts (lw_V q155 q156 q157 q4 q158) rfl rfl rfl (by decide +kernel) ⟨Nat.le_of_ble_eq_true rfl, Nat.le_of_ble_eq_true rfl⟩) (k_preV (k_Psub (ws' := [cR q1 qt1 80 sq1, cT qt1 dB f1, cS sq1 sb1 640, cB sb1 dB 80 sg1]) hP [0, 1, 2, 3] rfl) hK (va_D.sub (ws' := [cR q1 qt1 80 sq1, cT qt1 dB f1, cS sq1 sb1 640, cB sb1 dB 80 sg1]) hD [0, 1, 2, 3] (by decide) rfl) 0 0 rfl rfl _) rfl rfl hl.1 rfl (lv_room (Nat.le_of_ble_eq_true rfl)) dX0_askedWhole_292 ⟨Nat.le_of_ble_eq_true rfl, Nat.le_of_ble_eq_true rfl⟩) hP hD hS hA [0, 1, 2, 3] [] [0, 1, 2, 3] rfl rfl (by decide) (by decide) (fun _ => rfl) (by decide) (fun r_28 u_27 H locs hw_29 hP hD hS => ?_)
      have hP : va_P D vwCl [cR q1 qt1 80 sq1, cT qt1 dB f1, cS sq1 sb1 640, cB sb1 dB 80 sg1] H := hP
      have hD : va_D A [cR q1 qt1 80 sq1, cT qt1 dB f1, cS sq1 sb1 640, cB sb1 dB 80 sg1] := hD
      have hw_29 : r_28 = (nI (640 / 8)) := hw_29
      subst hw_29
      refine lv_bipush (v := nI 80) hx hb dX0_askedWhole_295 (by decide) ?_
      refine k_ne (tgt := 304) hx hb dX0_askedWhole_297 (by decide) (by omega) (by omega) (fun c_30 => absurd c_30 (by omega)) (fun c_30 => ?_)
      refine lv_iconst (v := nI 1) hx hb dX0_askedWhole_300 (by decide) ?_
      refine lv_goto (tgt := 305) hx hb dX0_askedWhole_301 (by decide) ?_
      refine W.widen (k := 6) (n := 8201) (Nat.le_of_ble_eq_true rfl) (Nat.le_of_ble_eq_true rfl) ?_
      exact W.zret (v := (nI 1)) hx hb hr rfl (fun t ht hW => ⟨⟨(nI 1), (), rfl, rfl, trivial⟩, hS.F ht⟩) hS.2.2 dX0_askedWhole_305
    | succ d ih =>
      intro p k hd hp hk H locs ls hP hD hS hl
      refine lv_iload_n hx hb dX0_askedWhole_13 rfl (lv_at hl 1 rfl) ?_
      refine lv_sipush (v := nI 640) hx hb dX0_askedWhole_14 (by decide) ?_
      refine k_ge (tgt := 243) hx hb dX0_askedWhole_17 (by decide) (by omega) (by omega) (fun cl => ?_) (fun cl => ?_)
      · have ep : p = 640 := by omega
        rw [ep] at hP hD
        have hP : va_P D vwCl [cR q1 qt1 80 sq1, cT qt1 dB f1, cS sq1 sb1 640, cB sb1 dB 80 sg1] H := hP
        have hD : va_D A [cR q1 qt1 80 sq1, cT qt1 dB f1, cS sq1 sb1 640, cB sb1 dB 80 sg1] := hD
        refine lv_aload_n hx hb dX0_askedWhole_243 rfl (lv_at hl 2 rfl) ?_
        refine k_calli (wr := []) (w2 := fun (u_31 : Unit) => [cR q1 qt1 80 sq1, cT qt1 dB f1, cS sq1 sb1 640, cB sb1 dB 80 sg1]) (va_runV (As := []) (rest := []) ⟨hx, hb, hml, hown, hts⟩ (m_left l D dB _ q1 qt1 sq1 sb1 80 f1 640 80 sg1 (by omega) (by omega)) (cwV 0 hts (lw_V q149 q150 q151 q4 q152) rfl rfl rfl (by decide +kernel) ⟨Nat.le_of_ble_eq_true rfl, Nat.le_of_ble_eq_true rfl⟩) (k_preV (k_Psub (ws' := [cR q1 qt1 80 sq1, cT qt1 dB f1, cS sq1 sb1 640, cB sb1 dB 80 sg1]) hP [0, 1, 2, 3] rfl) hK (va_D.sub (ws' := [cR q1 qt1 80 sq1, cT qt1 dB f1, cS sq1 sb1 640, cB sb1 dB 80 sg1]) hD [0, 1, 2, 3] (by decide) rfl) 0 0 rfl rfl _) rfl rfl hl.1 rfl (lv_room (Nat.le_of_ble_eq_true rfl)) dX0_askedWhole_244 ⟨Nat.le_of_ble_eq_true rfl, Nat.le_of_ble_eq_true rfl⟩) hP hD hS hA [0, 1, 2, 3] [] [0, 1, 2, 3] rfl rfl (by decide) (by decide) (fun _ => rfl) (by decide) (fun r_32 u_31 H locs hw_33 hP hD hS => ?_)
        have hP : va_P D vwCl [cR q1 qt1 80 sq1, cT qt1 dB f1, cS sq1 sb1 640, cB sb1 dB 80 sg1] H := hP
        have hD : va_D A [cR q1 qt1 80 sq1, cT qt1 dB f1, cS sq1 sb1 640, cB sb1 dB 80 sg1] := hD
        have hw_33 : r_32 = (nI (8 * 80 - 640)) := hw_33
        subst hw_33
        refine k_ne0 (tgt := 304) hx hb dX0_askedWhole_247 (by decide) (by omega) (fun c_34 => absurd c_34 (by omega)) (fun c_34 => ?_)
        refine lv_aload_n hx hb dX0_askedWhole_250 rfl (lv_at hl 2 rfl) ?_
        refine k_calli (wr := []) (w2 := fun (u_35 : Unit) => [cR q1 qt1 80 sq1, cT qt1 dB f1, cS sq1 sb1 640, cB sb1 dB 80 sg1]) (va_runV (As := []) (rest := []) ⟨hx, hb, hml, hown, hts⟩ (m_octet l D dB _ q1 qt1 sq1 sb1 80 f1 640 80 sg1) (cwV 0 hts (lw_V q155 q156 q157 q4 q158) rfl rfl rfl (by decide +kernel) ⟨Nat.le_of_ble_eq_true rfl, Nat.le_of_ble_eq_true rfl⟩) (k_preV (k_Psub (ws' := [cR q1 qt1 80 sq1, cT qt1 dB f1, cS sq1 sb1 640, cB sb1 dB 80 sg1]) hP [0, 1, 2, 3] rfl) hK (va_D.sub (ws' := [cR q1 qt1 80 sq1, cT qt1 dB f1, cS sq1 sb1 640, cB sb1 dB 80 sg1]) hD [0, 1, 2, 3] (by decide) rfl) 0 0 rfl rfl _) rfl rfl hl.1 rfl (lv_room (Nat.le_of_ble_eq_true rfl)) dX0_askedWhole_251 ⟨Nat.le_of_ble_eq_true rfl, Nat.le_of_ble_eq_true rfl⟩) hP hD hS hA [0, 1, 2, 3] [] [0, 1, 2, 3] rfl rfl (by decide) (by decide) (fun _ => rfl) (by decide) (fun r_36 u_35 H locs hw_37 hP hD hS => ?_)
        have hP : va_P D vwCl [cR q1 qt1 80 sq1, cT qt1 dB f1, cS sq1 sb1 640, cB sb1 dB 80 sg1] H := hP
        have hD : va_D A [cR q1 qt1 80 sq1, cT qt1 dB f1, cS sq1 sb1 640, cB sb1 dB 80 sg1] := hD
        have hw_37 : r_36 = (nI (640 / 8)) := hw_37
        subst hw_37
        refine lv_bipush (v := nI 80) hx hb dX0_askedWhole_254 (by decide) ?_
        refine k_ne (tgt := 304) hx hb dX0_askedWhole_256 (by decide) (by omega) (by omega) (fun c_38 => absurd c_38 (by omega)) (fun c_38 => ?_)
        refine lv_aload_n hx hb dX0_askedWhole_259 rfl (lv_at hl 2 rfl) ?_
        refine k_calli (wr := []) (w2 := fun (u_39 : Unit) => [cR q1 qt1 80 sq1, cT qt1 dB f1, cS sq1 sb1 640, cB sb1 dB 80 sg1]) (va_runV (As := []) (rest := []) ⟨hx, hb, hml, hown, hts⟩ (m_bits l D dB _ q1 qt1 sq1 sb1 80 f1 640 80 sg1) (cwV 0 hts (lw_V q163 q164 q165 q4 q166) rfl rfl rfl (by decide +kernel) ⟨Nat.le_of_ble_eq_true rfl, Nat.le_of_ble_eq_true rfl⟩) (k_preV (k_Psub (ws' := [cR q1 qt1 80 sq1, cT qt1 dB f1, cS sq1 sb1 640, cB sb1 dB 80 sg1]) hP [0, 1, 2, 3] rfl) hK (va_D.sub (ws' := [cR q1 qt1 80 sq1, cT qt1 dB f1, cS sq1 sb1 640, cB sb1 dB 80 sg1]) hD [0, 1, 2, 3] (by decide) rfl) 0 0 rfl rfl _) rfl rfl hl.1 rfl (lv_room (Nat.le_of_ble_eq_true rfl)) dX0_askedWhole_260 ⟨Nat.le_of_ble_eq_true rfl, Nat.le_of_ble_eq_true rfl⟩) hP hD hS hA [0, 1, 2, 3] [] [0, 1, 2, 3] rfl rfl (by decide) (by decide) (fun _ => rfl) (by decide) (fun r_40 u_39 H locs hw_41 hP hD hS => ?_)
        have hP : va_P D vwCl [cR q1 qt1 80 sq1, cT qt1 dB f1, cS sq1 sb1 640, cB sb1 dB 80 sg1] H := hP
        have hD : va_D A [cR q1 qt1 80 sq1, cT qt1 dB f1, cS sq1 sb1 640, cB sb1 dB 80 sg1] := hD
        have hw_41 : r_40 = (nI (640 % 8)) := hw_41
        subst hw_41
        refine k_ne0 (tgt := 304) hx hb dX0_askedWhole_263 (by decide) (by omega) (fun c_42 => absurd c_42 (by omega)) (fun c_42 => ?_)
        refine lv_aload_n hx hb dX0_askedWhole_266 rfl (lv_at hl 2 rfl) ?_
        refine lv_iconst (v := nI 0) hx hb dX0_askedWhole_267 (by decide) ?_
        refine k_calll (wr := []) (w2 := fun (u_43 : Unit) => [cR q1 qt1 80 sq1, cT qt1 dB f1, cS sq1 sb1 640, cB sb1 dB 80 sg1]) (va_runV (As := [.int (nI 0)]) (rest := []) ⟨hx, hb, hml, hown, hts⟩ (m_rdNo l D dB _ q1 qt1 sq1 sb1 80 f1 640 80 sg1 (nI 0) 1 (by decide) (by omega) (by omega) (by omega)) (cwV 1 hts (lw_V q67 q68 q69 q4 q70) rfl rfl rfl (by decide +kernel) ⟨Nat.le_of_ble_eq_true rfl, Nat.le_of_ble_eq_true rfl⟩) (k_preV (k_Psub (ws' := [cR q1 qt1 80 sq1, cT qt1 dB f1, cS sq1 sb1 640, cB sb1 dB 80 sg1]) hP [0, 1, 2, 3] rfl) hK (va_D.sub (ws' := [cR q1 qt1 80 sq1, cT qt1 dB f1, cS sq1 sb1 640, cB sb1 dB 80 sg1]) hD [0, 1, 2, 3] (by decide) rfl) 0 0 rfl rfl _) rfl rfl hl.1 rfl (lv_room (Nat.le_of_ble_eq_true rfl)) dX0_askedWhole_268 ⟨Nat.le_of_ble_eq_true rfl, Nat.le_of_ble_eq_true rfl⟩) hP hD hS hA [0, 1, 2, 3] [] [0, 1, 2, 3] rfl rfl (by decide) (by decide) (fun _ => rfl) (by decide) (fun r_44 u_43 H locs hw_45 hP hD hS => ?_)
        have hP : va_P D vwCl [cR q1 qt1 80 sq1, cT qt1 dB f1, cS sq1 sb1 640, cB sb1 dB 80 sg1] H := hP
        have hD : va_D A [cR q1 qt1 80 sq1, cT qt1 dB f1, cS sq1 sb1 640, cB sb1 dB 80 sg1] := hD
        have hw_45 : r_44 = 4294967296 := hw_45
        subst hw_45
        refine lv_ldc2 (v := 4294967296) hx hb hown (hts _ q153) dX0_askedWhole_271 ?_
        refine W.lcmp hx hb dX0_askedWhole_274 ?_
        refine k_is (y := (nI 0)) (k_cmp0 (rfl)) ?_
        refine k_ne0 (tgt := 304) hx hb dX0_askedWhole_275 (by decide) (by omega) (fun c_46 => absurd c_46 (by omega)) (fun c_46 => ?_)
        refine lv_aload_n hx hb dX0_askedWhole_278 rfl (lv_at hl 2 rfl) ?_
        refine lv_bipush (v := nI 31) hx hb dX0_askedWhole_279 (by decide) ?_
        refine k_calll (wr := []) (w2 := fun (u_47 : Unit) => [cR q1 qt1 80 sq1, cT qt1 dB f1, cS sq1 sb1 640, cB sb1 dB 80 sg1]) (va_runV (As := [.int (nI 31)]) (rest := []) ⟨hx, hb, hml, hown, hts⟩ (m_rdNo l D dB _ q1 qt1 sq1 sb1 80 f1 640 80 sg1 (nI 31) 32 (by decide) (by omega) (by omega) (by omega)) (cwV 1 hts (lw_V q67 q68 q69 q4 q70) rfl rfl rfl (by decide +kernel) ⟨Nat.le_of_ble_eq_true rfl, Nat.le_of_ble_eq_true rfl⟩) (k_preV (k_Psub (ws' := [cR q1 qt1 80 sq1, cT qt1 dB f1, cS sq1 sb1 640, cB sb1 dB 80 sg1]) hP [0, 1, 2, 3] rfl) hK (va_D.sub (ws' := [cR q1 qt1 80 sq1, cT qt1 dB f1, cS sq1 sb1 640, cB sb1 dB 80 sg1]) hD [0, 1, 2, 3] (by decide) rfl) 0 0 rfl rfl _) rfl rfl hl.1 rfl (lv_room (Nat.le_of_ble_eq_true rfl)) dX0_askedWhole_281 ⟨Nat.le_of_ble_eq_true rfl, Nat.le_of_ble_eq_true rfl⟩) hP hD hS hA [0, 1, 2, 3] [] [0, 1, 2, 3] rfl rfl (by decide) (by decide) (fun _ => rfl) (by decide) (fun r_48 u_47 H locs hw_49 hP hD hS => ?_)
        have hP : va_P D vwCl [cR q1 qt1 80 sq1, cT qt1 dB f1, cS sq1 sb1 640, cB sb1 dB 80 sg1] H := hP
        have hD : va_D A [cR q1 qt1 80 sq1, cT qt1 dB f1, cS sq1 sb1 640, cB sb1 dB 80 sg1] := hD
        have hw_49 : r_48 = 4294967296 := hw_49
        subst hw_49
        refine lv_ldc2 (v := 4294967296) hx hb hown (hts _ q153) dX0_askedWhole_284 ?_
        refine W.lcmp hx hb dX0_askedWhole_287 ?_
        refine k_is (y := (nI 0)) (k_cmp0 (rfl)) ?_
        refine k_ne0 (tgt := 304) hx hb dX0_askedWhole_288 (by decide) (by omega) (fun c_50 => absurd c_50 (by omega)) (fun c_50 => ?_)
        refine lv_aload_n hx hb dX0_askedWhole_291 rfl (lv_at hl 2 rfl) ?_
        refine k_calli (wr := []) (w2 := fun (u_51 : Unit) => [cR q1 qt1 80 sq1, cT qt1 dB f1, cS sq1 sb1 640, cB sb1 dB 80 sg1]) (va_runV (As := []) (rest := []) ⟨hx, hb, hml, hown, hts⟩ (m_octet l D dB _ q1 qt1 sq1 sb1 80 f1 640 80 sg1) (cwV 0 hts (lw_V q155 q156 q157 q4 q158) rfl rfl rfl (by decide +kernel) ⟨Nat.le_of_ble_eq_true rfl, Nat.le_of_ble_eq_true rfl⟩) (k_preV (k_Psub (ws' := [cR q1 qt1 80 sq1, cT qt1 dB f1, cS sq1 sb1 640, cB sb1 dB 80 sg1]) hP [0, 1, 2, 3] rfl) hK (va_D.sub (ws' := [cR q1 qt1 80 sq1, cT qt1 dB f1, cS sq1 sb1 640, cB sb1 dB 80 sg1]) hD [0, 1, 2, 3] (by decide) rfl) 0 0 rfl rfl _) rfl rfl hl.1 rfl (lv_room (Nat.le_of_ble_eq_true rfl)) dX0_askedWhole_292 ⟨Nat.le_of_ble_eq_true rfl, Nat.le_of_ble_eq_true rfl⟩) hP hD hS hA [0, 1, 2, 3] [] [0, 1, 2, 3] rfl rfl (by decide) (by decide) (fun _ => rfl) (by decide) (fun r_52 u_51 H locs hw_53 hP hD hS => ?_)
        have hP : va_P D vwCl [cR q1 qt1 80 sq1, cT qt1 dB f1, cS sq1 sb1 640, cB sb1 dB 80 sg1] H := hP
        have hD : va_D A [cR q1 qt1 80 sq1, cT qt1 dB f1, cS sq1 sb1 640, cB sb1 dB 80 sg1] := hD
        have hw_53 : r_52 = (nI (640 / 8)) := hw_53
        subst hw_53
        refine lv_bipush (v := nI 80) hx hb dX0_askedWhole_295 (by decide) ?_
        refine k_ne (tgt := 304) hx hb dX0_askedWhole_297 (by decide) (by omega) (by omega) (fun c_54 => absurd c_54 (by omega)) (fun c_54 => ?_)
        refine lv_iconst (v := nI 1) hx hb dX0_askedWhole_300 (by decide) ?_
        refine lv_goto (tgt := 305) hx hb dX0_askedWhole_301 (by decide) ?_
        refine W.widen (k := 6) (n := 8201) (Nat.le_of_ble_eq_true rfl) (Nat.le_of_ble_eq_true rfl) ?_
        exact W.zret (v := (nI 1)) hx hb hr rfl (fun t ht hW => ⟨⟨(nI 1), (), rfl, rfl, trivial⟩, hS.F ht⟩) hS.2.2 dX0_askedWhole_305
      · have h159 : ∀ (w : Nat), 1 ≤ w → w ≤ 32 → p + w ≤ 640 → ∀ (H : Heap) (locs : List Loc) (ls : Array Slot), va_P D vwCl [cR q1 qt1 80 sq1, cT qt1 dB f1, cS sq1 sb1 (p + w), cB sb1 dB 80 sg1] H → va_D A [cR q1 qt1 80 sq1, cT qt1 dB f1, cS sq1 sb1 (p + w), cB sb1 dB 80 sg1] → va_S A s.heap H locs → lv_has ls 10 [(5, .long ((nI (zb_num (fun i => zb_byt (sg1 i)) p w)).toInt64)), (4, .int (nI w)), (3, .int (nI k)), (2, .int (nI p)), (1, .ref q1), (0, .ref b)] → W pg l e (headSpec (ws_ yX0_askedWhole cX0_askedWhole 10 (some .boolean)) ({ frames := 4, cells := 6, slots := 8201, locals := 110 })).room s m ([.ref b] : List Value).toArray below meth c H locs 6 8201 (MQ below (va_Qi (fun (r : Int32) (_ : Unit) => r = nI 1) (fun (_ : Unit) (_ : State) => True) A) ([.ref b] : List Value).toArray s 6 8201 A) (F0 m 159 ls []) := by
          intro w hw1 hw2 hw3
          have hdue : ∀ (d u : Nat), w - u ≤ d → u ≤ w → ∀ (H : Heap) (locs : List Loc) (ls : Array Slot), va_P D vwCl [cR q1 qt1 80 sq1, cT qt1 dB f1, cS sq1 sb1 (p + w), cB sb1 dB 80 sg1] H → va_D A [cR q1 qt1 80 sq1, cT qt1 dB f1, cS sq1 sb1 (p + w), cB sb1 dB 80 sg1] → va_S A s.heap H locs → lv_has ls 10 [(9, .int (nI (p + u))), (7, .long (lN (zb_num (zb_sb L xs) p u))), (5, .long ((nI (zb_num (fun i => zb_byt (sg1 i)) p w)).toInt64)), (4, .int (nI w)), (3, .int (nI k)), (2, .int (nI p)), (1, .ref q1), (0, .ref b)] → W pg l e (headSpec (ws_ yX0_askedWhole cX0_askedWhole 10 (some .boolean)) ({ frames := 4, cells := 6, slots := 8201, locals := 110 })).room s m ([.ref b] : List Value).toArray below meth c H locs 6 8201 (MQ below (va_Qi (fun (r : Int32) (_ : Unit) => r = nI 1) (fun (_ : Unit) (_ : State) => True) A) ([.ref b] : List Value).toArray s 6 8201 A) (F0 m 165 ls []) := by
            intro d
            induction d with
            | zero =>
              intro u hd2 hu H locs ls hP hD hS hl
              refine lv_iload hx hb dX0_askedWhole_165 (lv_at hl 0 rfl) ?_
              refine lv_iload_n hx hb dX0_askedWhole_167 rfl (lv_at hl 5 rfl) ?_
              refine lv_iload hx hb dX0_askedWhole_168 (lv_at hl 3 rfl) ?_
              refine lv_iadd hx hb dX0_askedWhole_170 ?_
              refine k_is (y := (nI (p + w))) (nI_add _ _) ?_
              refine k_ge (tgt := 208) hx hb dX0_askedWhole_171 (by decide) (by omega) (by omega) (fun c_55 => ?_) (fun c_55 => absurd c_55 (by omega))
              have eu : u = w := by omega
              rw [eu] at hl
              have hnum : zb_num (fun i => zb_byt (sg1 i)) p w = zb_num (zb_sb L xs) p w := zb_num_congr (U := zb_sb L xs) (N := 80) hgs w (by omega)
              refine lv_lload hx hb dX0_askedWhole_208 (lv_at hl 2 rfl) ?_
              refine lv_iload hx hb dX0_askedWhole_210 (lv_at hl 3 rfl) ?_
              refine lv_bipush (v := nI 32) hx hb dX0_askedWhole_212 (by decide) ?_
              refine k_ne (tgt := 224) hx hb dX0_askedWhole_214 (by decide) (by omega) (by omega) (fun c32 => ?_) (fun c32 => ?_)
              · refine lv_lload hx hb dX0_askedWhole_224 (lv_at hl 1 rfl) ?_
                refine W.lcmp hx hb dX0_askedWhole_226 ?_
                refine k_is (y := (nI 0)) (k_cmp0 ((congrArg (fun z => (nI z).toInt64) hnum).trans (nI_l (zb_num_31 (by omega))))) ?_
                refine k_eq0 (tgt := 232) hx hb dX0_askedWhole_227 (by decide) (by omega) (fun c_56 => ?_) (fun c_56 => absurd c_56 (by omega))
                refine lv_iload_n hx hb dX0_askedWhole_232 rfl (lv_at hl 5 rfl) ?_
                refine lv_iload hx hb dX0_askedWhole_233 (lv_at hl 3 rfl) ?_
                refine lv_iadd hx hb dX0_askedWhole_235 ?_
                refine k_is (y := (nI (p + w))) (nI_add _ _) ?_
                refine lv_istore_n (lv' := [(2, .int (nI (p + w))), (9, .int (nI (p + w))), (7, .long (lN (zb_num (zb_sb L xs) p w))), (5, .long ((nI (zb_num (fun i => zb_byt (sg1 i)) p w)).toInt64)), (4, .int (nI w)), (3, .int (nI k)), (1, .ref q1), (0, .ref b)]) hx hb dX0_askedWhole_236 rfl hl (by decide) rfl (fun ls hl => ?_)
                refine lv_iinc (v := (nI (k + 1))) (lv' := [(3, .int (nI (k + 1))), (2, .int (nI (p + w))), (9, .int (nI (p + w))), (7, .long (lN (zb_num (zb_sb L xs) p w))), (5, .long ((nI (zb_num (fun i => zb_byt (sg1 i)) p w)).toInt64)), (4, .int (nI w)), (1, .ref q1), (0, .ref b)]) hx hb dX0_askedWhole_237 hl (k := 5) rfl (nI_add k 1) (by decide) rfl (fun ls hl => ?_)
                refine lv_goto (tgt := 13) hx hb dX0_askedWhole_240 (by decide) ?_
                exact ih (p + w) (k + 1) (by omega) (by omega) (by omega) H locs ls hP hD hS (lv_sub hl [0, 1, 6, 7] rfl)
              · refine lv_lload hx hb dX0_askedWhole_217 (lv_at hl 1 rfl) ?_
                refine lv_l2i hx hb dX0_askedWhole_219 rfl ?_
                refine k_is (y := (nI (zb_num (zb_sb L xs) p w))) (lN_i _) ?_
                refine lv_i2l hx hb dX0_askedWhole_220 rfl ?_
                refine lv_goto (tgt := 226) hx hb dX0_askedWhole_221 (by decide) ?_
                refine W.lcmp hx hb dX0_askedWhole_226 ?_
                refine k_is (y := (nI 0)) (k_cmp0 (congrArg (fun z => (nI z).toInt64) hnum)) ?_
                refine k_eq0 (tgt := 232) hx hb dX0_askedWhole_227 (by decide) (by omega) (fun c_57 => ?_) (fun c_57 => absurd c_57 (by omega))
                refine lv_iload_n hx hb dX0_askedWhole_232 rfl (lv_at hl 5 rfl) ?_
                refine lv_iload hx hb dX0_askedWhole_233 (lv_at hl 3 rfl) ?_
                refine lv_iadd hx hb dX0_askedWhole_235 ?_
                refine k_is (y := (nI (p + w))) (nI_add _ _) ?_
                refine lv_istore_n (lv' := [(2, .int (nI (p + w))), (9, .int (nI (p + w))), (7, .long (lN (zb_num (zb_sb L xs) p w))), (5, .long ((nI (zb_num (fun i => zb_byt (sg1 i)) p w)).toInt64)), (4, .int (nI w)), (3, .int (nI k)), (1, .ref q1), (0, .ref b)]) hx hb dX0_askedWhole_236 rfl hl (by decide) rfl (fun ls hl => ?_)
                refine lv_iinc (v := (nI (k + 1))) (lv' := [(3, .int (nI (k + 1))), (2, .int (nI (p + w))), (9, .int (nI (p + w))), (7, .long (lN (zb_num (zb_sb L xs) p w))), (5, .long ((nI (zb_num (fun i => zb_byt (sg1 i)) p w)).toInt64)), (4, .int (nI w)), (1, .ref q1), (0, .ref b)]) hx hb dX0_askedWhole_237 hl (k := 5) rfl (nI_add k 1) (by decide) rfl (fun ls hl => ?_)
                refine lv_goto (tgt := 13) hx hb dX0_askedWhole_240 (by decide) ?_
                exact ih (p + w) (k + 1) (by omega) (by omega) (by omega) H locs ls hP hD hS (lv_sub hl [0, 1, 6, 7] rfl)
            | succ d ihd =>
              intro u hd2 hu H locs ls hP hD hS hl
              refine lv_iload hx hb dX0_askedWhole_165 (lv_at hl 0 rfl) ?_
              refine lv_iload_n hx hb dX0_askedWhole_167 rfl (lv_at hl 5 rfl) ?_
              refine lv_iload hx hb dX0_askedWhole_168 (lv_at hl 3 rfl) ?_
              refine lv_iadd hx hb dX0_askedWhole_170 ?_
              refine k_is (y := (nI (p + w))) (nI_add _ _) ?_
              refine k_ge (tgt := 208) hx hb dX0_askedWhole_171 (by decide) (by omega) (by omega) (fun cu => ?_) (fun cu => ?_)
              · have eu : u = w := by omega
                rw [eu] at hl
                have hnum : zb_num (fun i => zb_byt (sg1 i)) p w = zb_num (zb_sb L xs) p w := zb_num_congr (U := zb_sb L xs) (N := 80) hgs w (by omega)
                refine lv_lload hx hb dX0_askedWhole_208 (lv_at hl 2 rfl) ?_
                refine lv_iload hx hb dX0_askedWhole_210 (lv_at hl 3 rfl) ?_
                refine lv_bipush (v := nI 32) hx hb dX0_askedWhole_212 (by decide) ?_
                refine k_ne (tgt := 224) hx hb dX0_askedWhole_214 (by decide) (by omega) (by omega) (fun c32 => ?_) (fun c32 => ?_)
                · refine lv_lload hx hb dX0_askedWhole_224 (lv_at hl 1 rfl) ?_
                  refine W.lcmp hx hb dX0_askedWhole_226 ?_
                  refine k_is (y := (nI 0)) (k_cmp0 ((congrArg (fun z => (nI z).toInt64) hnum).trans (nI_l (zb_num_31 (by omega))))) ?_
                  refine k_eq0 (tgt := 232) hx hb dX0_askedWhole_227 (by decide) (by omega) (fun c_58 => ?_) (fun c_58 => absurd c_58 (by omega))
                  refine lv_iload_n hx hb dX0_askedWhole_232 rfl (lv_at hl 5 rfl) ?_
                  refine lv_iload hx hb dX0_askedWhole_233 (lv_at hl 3 rfl) ?_
                  refine lv_iadd hx hb dX0_askedWhole_235 ?_
                  refine k_is (y := (nI (p + w))) (nI_add _ _) ?_
                  refine lv_istore_n (lv' := [(2, .int (nI (p + w))), (9, .int (nI (p + w))), (7, .long (lN (zb_num (zb_sb L xs) p w))), (5, .long ((nI (zb_num (fun i => zb_byt (sg1 i)) p w)).toInt64)), (4, .int (nI w)), (3, .int (nI k)), (1, .ref q1), (0, .ref b)]) hx hb dX0_askedWhole_236 rfl hl (by decide) rfl (fun ls hl => ?_)
                  refine lv_iinc (v := (nI (k + 1))) (lv' := [(3, .int (nI (k + 1))), (2, .int (nI (p + w))), (9, .int (nI (p + w))), (7, .long (lN (zb_num (zb_sb L xs) p w))), (5, .long ((nI (zb_num (fun i => zb_byt (sg1 i)) p w)).toInt64)), (4, .int (nI w)), (1, .ref q1), (0, .ref b)]) hx hb dX0_askedWhole_237 hl (k := 5) rfl (nI_add k 1) (by decide) rfl (fun ls hl => ?_)
                  refine lv_goto (tgt := 13) hx hb dX0_askedWhole_240 (by decide) ?_
                  exact ih (p + w) (k + 1) (by omega) (by omega) (by omega) H locs ls hP hD hS (lv_sub hl [0, 1, 6, 7] rfl)
                · refine lv_lload hx hb dX0_askedWhole_217 (lv_at hl 1 rfl) ?_
                  refine lv_l2i hx hb dX0_askedWhole_219 rfl ?_
                  refine k_is (y := (nI (zb_num (zb_sb L xs) p w))) (lN_i _) ?_
                  refine lv_i2l hx hb dX0_askedWhole_220 rfl ?_
                  refine lv_goto (tgt := 226) hx hb dX0_askedWhole_221 (by decide) ?_
                  refine W.lcmp hx hb dX0_askedWhole_226 ?_
                  refine k_is (y := (nI 0)) (k_cmp0 (congrArg (fun z => (nI z).toInt64) hnum)) ?_
                  refine k_eq0 (tgt := 232) hx hb dX0_askedWhole_227 (by decide) (by omega) (fun c_59 => ?_) (fun c_59 => absurd c_59 (by omega))
                  refine lv_iload_n hx hb dX0_askedWhole_232 rfl (lv_at hl 5 rfl) ?_
                  refine lv_iload hx hb dX0_askedWhole_233 (lv_at hl 3 rfl) ?_
                  refine lv_iadd hx hb dX0_askedWhole_235 ?_
                  refine k_is (y := (nI (p + w))) (nI_add _ _) ?_
                  refine lv_istore_n (lv' := [(2, .int (nI (p + w))), (9, .int (nI (p + w))), (7, .long (lN (zb_num (zb_sb L xs) p w))), (5, .long ((nI (zb_num (fun i => zb_byt (sg1 i)) p w)).toInt64)), (4, .int (nI w)), (3, .int (nI k)), (1, .ref q1), (0, .ref b)]) hx hb dX0_askedWhole_236 rfl hl (by decide) rfl (fun ls hl => ?_)
                  refine lv_iinc (v := (nI (k + 1))) (lv' := [(3, .int (nI (k + 1))), (2, .int (nI (p + w))), (9, .int (nI (p + w))), (7, .long (lN (zb_num (zb_sb L xs) p w))), (5, .long ((nI (zb_num (fun i => zb_byt (sg1 i)) p w)).toInt64)), (4, .int (nI w)), (1, .ref q1), (0, .ref b)]) hx hb dX0_askedWhole_237 hl (k := 5) rfl (nI_add k 1) (by decide) rfl (fun ls hl => ?_)
                  refine lv_goto (tgt := 13) hx hb dX0_askedWhole_240 (by decide) ?_
                  exact ih (p + w) (k + 1) (by omega) (by omega) (by omega) H locs ls hP hD hS (lv_sub hl [0, 1, 6, 7] rfl)
              · refine lv_lload hx hb dX0_askedWhole_174 (lv_at hl 1 rfl) ?_
                refine lv_iconst (v := nI 1) hx hb dX0_askedWhole_176 (by decide) ?_
                refine lv_lshl hx hb dX0_askedWhole_177 rfl ?_
                refine k_isl (y := (lN ((zb_num (zb_sb L xs) p u) * 2 ^ 1))) (zb_lshl (by omega) (Nat.lt_trans (zb_pow (by omega)) (by decide))) ?_
                refine lv_aload_n hx hb dX0_askedWhole_178 rfl (lv_at hl 7 rfl) ?_
                refine lv_iload hx hb dX0_askedWhole_179 (lv_at hl 0 rfl) ?_
                refine lv_bipush (v := nI 32) hx hb dX0_askedWhole_181 (by decide) ?_
                refine lv_idiv hx hb dX0_askedWhole_183 (nI_ne0 (by omega) (by omega)) ?_
                refine k_is (y := (nI ((p + u) / 32))) (pk_div (by omega) (by omega) (by omega)) ?_
                refine k_callx (va_runS (As := [.ref b, .int (nI ((p + u) / 32))]) (rest := [.long (lN ((zb_num (zb_sb L xs) p u) * 2 ^ 1))]) ⟨hx, hb, hml, hown, hts⟩ (m_acell l D dB _ b L xs ((p + u) / 32) hL (by omega)) (va_cwS 2 hts (lw_S q177 q178 q3 q179) rfl rfl rfl (by decide +kernel) ⟨Nat.le_of_ble_eq_true rfl, Nat.le_of_ble_eq_true rfl⟩) (k_preX hK hX hbl hbA hS _) rfl rfl hl.1 rfl (lv_room (Nat.le_of_ble_eq_true rfl)) dX0_askedWhole_184 ⟨Nat.le_of_ble_eq_true rfl, Nat.le_of_ble_eq_true rfl⟩) hP hS hA (fun r_61 u_60 H locs hw_62 hP hS => ?_)
                have hP : va_P D vwCl [cR q1 qt1 80 sq1, cT qt1 dB f1, cS sq1 sb1 (p + w), cB sb1 dB 80 sg1] H := hP
                have hw_62 : r_61 = (zb_cel L xs ((p + u) / 32)) := hw_62
                subst hw_62
                refine lv_bipush (v := nI 31) hx hb dX0_askedWhole_187 (by decide) ?_
                refine lv_iload hx hb dX0_askedWhole_189 (lv_at hl 0 rfl) ?_
                refine lv_bipush (v := nI 32) hx hb dX0_askedWhole_191 (by decide) ?_
                refine lv_irem hx hb dX0_askedWhole_193 (nI_ne0 (by omega) (by omega)) ?_
                refine k_is (y := (nI ((p + u) % 32))) (pk_rem (by omega) (by omega) (by omega)) ?_
                refine lv_isub hx hb dX0_askedWhole_194 ?_
                refine k_is (y := (nI (31 - ((p + u) % 32)))) (pk_sub (by omega)) ?_
                refine lv_iushr hx hb dX0_askedWhole_195 rfl ?_
                refine lv_iconst (v := nI 1) hx hb dX0_askedWhole_196 (by decide) ?_
                refine lv_iand hx hb dX0_askedWhole_197 ?_
                refine k_is (y := (nI (zb_bit (zb_sb L xs) (p + u)))) ((zb_ush1 _ (by omega)).trans (congrArg nI (zb_bit_sb L xs (p + u)).symm)) ?_
                refine lv_i2l hx hb dX0_askedWhole_198 rfl ?_
                refine k_isl (y := (lN (zb_bit (zb_sb L xs) (p + u)))) (nI_l (Nat.lt_trans (zb_bit_lt _ _) (by decide))) ?_
                refine lv_lor hx hb dX0_askedWhole_199 ?_
                refine k_isl (y := (lN (zb_num (zb_sb L xs) p (u + 1)))) (zb_due) ?_
                refine lv_lstore (lv' := [(7, .long (lN (zb_num (zb_sb L xs) p (u + 1)))), (9, .int (nI (p + u))), (5, .long ((nI (zb_num (fun i => zb_byt (sg1 i)) p w)).toInt64)), (4, .int (nI w)), (3, .int (nI k)), (2, .int (nI p)), (1, .ref q1), (0, .ref b)]) hx hb dX0_askedWhole_200 hl (by decide) rfl (fun ls hl => ?_)
                refine lv_iinc (v := (nI ((p + u) + 1))) (lv' := [(9, .int (nI ((p + u) + 1))), (7, .long (lN (zb_num (zb_sb L xs) p (u + 1)))), (5, .long ((nI (zb_num (fun i => zb_byt (sg1 i)) p w)).toInt64)), (4, .int (nI w)), (3, .int (nI k)), (2, .int (nI p)), (1, .ref q1), (0, .ref b)]) hx hb dX0_askedWhole_202 hl (k := 1) rfl (nI_add (p + u) 1) (by decide) rfl (fun ls hl => ?_)
                refine lv_goto (tgt := 165) hx hb dX0_askedWhole_205 (by decide) ?_
                exact ihd (u + 1) (by omega) (by omega) H locs ls hP hD hS (lv_sub hl [0, 1, 2, 3, 4, 5, 6, 7] rfl)
          intro H locs ls hP hD hS hl
          refine lv_lconst (v := lN 0) hx hb dX0_askedWhole_159 (by decide) ?_
          refine lv_lstore (lv' := [(7, .long (lN 0)), (5, .long ((nI (zb_num (fun i => zb_byt (sg1 i)) p w)).toInt64)), (4, .int (nI w)), (3, .int (nI k)), (2, .int (nI p)), (1, .ref q1), (0, .ref b)]) hx hb dX0_askedWhole_160 hl (by decide) rfl (fun ls hl => ?_)
          refine lv_iload_n hx hb dX0_askedWhole_162 rfl (lv_at hl 4 rfl) ?_
          refine lv_istore (lv' := [(9, .int (nI p)), (7, .long (lN 0)), (5, .long ((nI (zb_num (fun i => zb_byt (sg1 i)) p w)).toInt64)), (4, .int (nI w)), (3, .int (nI k)), (2, .int (nI p)), (1, .ref q1), (0, .ref b)]) hx hb dX0_askedWhole_163 hl (by decide) rfl (fun ls hl => ?_)
          exact hdue w 0 (Nat.sub_le _ _) (Nat.zero_le _) H locs ls hP hD hS (lv_sub hl [0, 1, 2, 3, 4, 5, 6, 7] rfl)
        obtain ⟨j, hj, ej⟩ := pk_andE (zb_cel L xs (20 + k % 20) + nI (k * 7)) (m := nI 31) 5 (by decide)
        refine lv_iconst (v := nI 1) hx hb dX0_askedWhole_20 (by decide) ?_
        refine lv_aload_n hx hb dX0_askedWhole_21 rfl (lv_at hl 3 rfl) ?_
        refine lv_bipush (v := nI 20) hx hb dX0_askedWhole_22 (by decide) ?_
        refine lv_iload_n hx hb dX0_askedWhole_24 rfl (lv_at hl 0 rfl) ?_
        refine lv_bipush (v := nI 20) hx hb dX0_askedWhole_25 (by decide) ?_
        refine lv_irem hx hb dX0_askedWhole_27 (nI_ne0 (by omega) (by omega)) ?_
        refine k_is (y := (nI (k % 20))) (pk_rem (by omega) (by omega) (by omega)) ?_
        refine lv_iadd hx hb dX0_askedWhole_28 ?_
        refine k_is (y := (nI (20 + (k % 20)))) (nI_add _ _) ?_
        refine k_callx (va_runS (As := [.ref b, .int (nI (20 + k % 20))]) (rest := [.int (nI 1)]) ⟨hx, hb, hml, hown, hts⟩ (m_acell l D dB _ b L xs (20 + k % 20) hL (by omega)) (va_cwS 2 hts (lw_S q177 q178 q3 q179) rfl rfl rfl (by decide +kernel) ⟨Nat.le_of_ble_eq_true rfl, Nat.le_of_ble_eq_true rfl⟩) (k_preX hK hX hbl hbA hS _) rfl rfl hl.1 rfl (lv_room (Nat.le_of_ble_eq_true rfl)) dX0_askedWhole_29 ⟨Nat.le_of_ble_eq_true rfl, Nat.le_of_ble_eq_true rfl⟩) hP hS hA (fun r_64 u_63 H locs hw_65 hP hS => ?_)
        have hP : va_P D vwCl [cR q1 qt1 80 sq1, cT qt1 dB f1, cS sq1 sb1 p, cB sb1 dB 80 sg1] H := hP
        have hw_65 : r_64 = (zb_cel L xs (20 + k % 20)) := hw_65
        subst hw_65
        refine lv_iload_n hx hb dX0_askedWhole_32 rfl (lv_at hl 0 rfl) ?_
        refine lv_bipush (v := nI 7) hx hb dX0_askedWhole_33 (by decide) ?_
        refine lv_imul hx hb dX0_askedWhole_35 ?_
        refine k_is (y := (nI (k * 7))) (pk_mul _ _) ?_
        refine lv_iadd hx hb dX0_askedWhole_36 ?_
        refine lv_bipush (v := nI 31) hx hb dX0_askedWhole_37 (by decide) ?_
        refine lv_iand hx hb dX0_askedWhole_39 ?_
        refine k_is (y := (nI j)) (ej) ?_
        refine lv_iadd hx hb dX0_askedWhole_40 ?_
        refine k_is (y := (nI (1 + j))) (nI_add _ _) ?_
        refine k_is (y := (nI (j + 1))) (congrArg nI (by omega)) ?_
        refine lv_istore (lv' := [(4, .int (nI (j + 1))), (3, .int (nI k)), (2, .int (nI p)), (1, .ref q1), (0, .ref b)]) hx hb dX0_askedWhole_41 hl (by decide) rfl (fun ls hl => ?_)
        refine lv_aload_n hx hb dX0_askedWhole_43 rfl (lv_at hl 3 rfl) ?_
        refine k_calli (wr := []) (w2 := fun (u_66 : Unit) => [cR q1 qt1 80 sq1, cT qt1 dB f1, cS sq1 sb1 p, cB sb1 dB 80 sg1]) (va_runV (As := []) (rest := []) ⟨hx, hb, hml, hown, hts⟩ (m_left l D dB _ q1 qt1 sq1 sb1 80 f1 p 80 sg1 (by omega) (by omega)) (cwV 0 hts (lw_V q149 q150 q151 q4 q152) rfl rfl rfl (by decide +kernel) ⟨Nat.le_of_ble_eq_true rfl, Nat.le_of_ble_eq_true rfl⟩) (k_preV (k_Psub (ws' := [cR q1 qt1 80 sq1, cT qt1 dB f1, cS sq1 sb1 p, cB sb1 dB 80 sg1]) hP [0, 1, 2, 3] rfl) hK (va_D.sub (ws' := [cR q1 qt1 80 sq1, cT qt1 dB f1, cS sq1 sb1 p, cB sb1 dB 80 sg1]) hD [0, 1, 2, 3] (by decide) rfl) 0 0 rfl rfl _) rfl rfl hl.1 rfl (lv_room (Nat.le_of_ble_eq_true rfl)) dX0_askedWhole_44 ⟨Nat.le_of_ble_eq_true rfl, Nat.le_of_ble_eq_true rfl⟩) hP hD hS hA [0, 1, 2, 3] [] [0, 1, 2, 3] rfl rfl (by decide) (by decide) (fun _ => rfl) (by decide) (fun r_67 u_66 H locs hw_68 hP hD hS => ?_)
        have hP : va_P D vwCl [cR q1 qt1 80 sq1, cT qt1 dB f1, cS sq1 sb1 p, cB sb1 dB 80 sg1] H := hP
        have hD : va_D A [cR q1 qt1 80 sq1, cT qt1 dB f1, cS sq1 sb1 p, cB sb1 dB 80 sg1] := hD
        have hw_68 : r_67 = (nI (8 * 80 - p)) := hw_68
        subst hw_68
        refine lv_sipush (v := nI 640) hx hb dX0_askedWhole_47 (by decide) ?_
        refine lv_iload_n hx hb dX0_askedWhole_50 rfl (lv_at hl 2 rfl) ?_
        refine lv_isub hx hb dX0_askedWhole_51 ?_
        refine k_is (y := (nI (640 - p))) (pk_sub (by omega)) ?_
        refine k_ne (tgt := 77) hx hb dX0_askedWhole_52 (by decide) (by omega) (by omega) (fun c_69 => absurd c_69 (by omega)) (fun c_69 => ?_)
        refine lv_aload_n hx hb dX0_askedWhole_55 rfl (lv_at hl 3 rfl) ?_
        refine k_calli (wr := []) (w2 := fun (u_70 : Unit) => [cR q1 qt1 80 sq1, cT qt1 dB f1, cS sq1 sb1 p, cB sb1 dB 80 sg1]) (va_runV (As := []) (rest := []) ⟨hx, hb, hml, hown, hts⟩ (m_octet l D dB _ q1 qt1 sq1 sb1 80 f1 p 80 sg1) (cwV 0 hts (lw_V q155 q156 q157 q4 q158) rfl rfl rfl (by decide +kernel) ⟨Nat.le_of_ble_eq_true rfl, Nat.le_of_ble_eq_true rfl⟩) (k_preV (k_Psub (ws' := [cR q1 qt1 80 sq1, cT qt1 dB f1, cS sq1 sb1 p, cB sb1 dB 80 sg1]) hP [0, 1, 2, 3] rfl) hK (va_D.sub (ws' := [cR q1 qt1 80 sq1, cT qt1 dB f1, cS sq1 sb1 p, cB sb1 dB 80 sg1]) hD [0, 1, 2, 3] (by decide) rfl) 0 0 rfl rfl _) rfl rfl hl.1 rfl (lv_room (Nat.le_of_ble_eq_true rfl)) dX0_askedWhole_56 ⟨Nat.le_of_ble_eq_true rfl, Nat.le_of_ble_eq_true rfl⟩) hP hD hS hA [0, 1, 2, 3] [] [0, 1, 2, 3] rfl rfl (by decide) (by decide) (fun _ => rfl) (by decide) (fun r_71 u_70 H locs hw_72 hP hD hS => ?_)
        have hP : va_P D vwCl [cR q1 qt1 80 sq1, cT qt1 dB f1, cS sq1 sb1 p, cB sb1 dB 80 sg1] H := hP
        have hD : va_D A [cR q1 qt1 80 sq1, cT qt1 dB f1, cS sq1 sb1 p, cB sb1 dB 80 sg1] := hD
        have hw_72 : r_71 = (nI (p / 8)) := hw_72
        subst hw_72
        refine lv_iload_n hx hb dX0_askedWhole_59 rfl (lv_at hl 2 rfl) ?_
        refine lv_bipush (v := nI 8) hx hb dX0_askedWhole_60 (by decide) ?_
        refine lv_idiv hx hb dX0_askedWhole_62 (nI_ne0 (by omega) (by omega)) ?_
        refine k_is (y := (nI (p / 8))) (pk_div (by omega) (by omega) (by omega)) ?_
        refine k_ne (tgt := 77) hx hb dX0_askedWhole_63 (by decide) (by omega) (by omega) (fun c_73 => absurd c_73 (by omega)) (fun c_73 => ?_)
        refine lv_aload_n hx hb dX0_askedWhole_66 rfl (lv_at hl 3 rfl) ?_
        refine k_calli (wr := []) (w2 := fun (u_74 : Unit) => [cR q1 qt1 80 sq1, cT qt1 dB f1, cS sq1 sb1 p, cB sb1 dB 80 sg1]) (va_runV (As := []) (rest := []) ⟨hx, hb, hml, hown, hts⟩ (m_bits l D dB _ q1 qt1 sq1 sb1 80 f1 p 80 sg1) (cwV 0 hts (lw_V q163 q164 q165 q4 q166) rfl rfl rfl (by decide +kernel) ⟨Nat.le_of_ble_eq_true rfl, Nat.le_of_ble_eq_true rfl⟩) (k_preV (k_Psub (ws' := [cR q1 qt1 80 sq1, cT qt1 dB f1, cS sq1 sb1 p, cB sb1 dB 80 sg1]) hP [0, 1, 2, 3] rfl) hK (va_D.sub (ws' := [cR q1 qt1 80 sq1, cT qt1 dB f1, cS sq1 sb1 p, cB sb1 dB 80 sg1]) hD [0, 1, 2, 3] (by decide) rfl) 0 0 rfl rfl _) rfl rfl hl.1 rfl (lv_room (Nat.le_of_ble_eq_true rfl)) dX0_askedWhole_67 ⟨Nat.le_of_ble_eq_true rfl, Nat.le_of_ble_eq_true rfl⟩) hP hD hS hA [0, 1, 2, 3] [] [0, 1, 2, 3] rfl rfl (by decide) (by decide) (fun _ => rfl) (by decide) (fun r_75 u_74 H locs hw_76 hP hD hS => ?_)
        have hP : va_P D vwCl [cR q1 qt1 80 sq1, cT qt1 dB f1, cS sq1 sb1 p, cB sb1 dB 80 sg1] H := hP
        have hD : va_D A [cR q1 qt1 80 sq1, cT qt1 dB f1, cS sq1 sb1 p, cB sb1 dB 80 sg1] := hD
        have hw_76 : r_75 = (nI (p % 8)) := hw_76
        subst hw_76
        refine lv_iload_n hx hb dX0_askedWhole_70 rfl (lv_at hl 2 rfl) ?_
        refine lv_bipush (v := nI 8) hx hb dX0_askedWhole_71 (by decide) ?_
        refine lv_irem hx hb dX0_askedWhole_73 (nI_ne0 (by omega) (by omega)) ?_
        refine k_is (y := (nI (p % 8))) (pk_rem (by omega) (by omega) (by omega)) ?_
        refine k_eq (tgt := 79) hx hb dX0_askedWhole_74 (by decide) (by omega) (by omega) (fun c_77 => ?_) (fun c_77 => absurd c_77 (by omega))
        refine lv_aload_n hx hb dX0_askedWhole_79 rfl (lv_at hl 3 rfl) ?_
        refine lv_iload hx hb dX0_askedWhole_80 (lv_at hl 0 rfl) ?_
        refine lv_iconst (v := nI 1) hx hb dX0_askedWhole_82 (by decide) ?_
        refine lv_isub hx hb dX0_askedWhole_83 ?_
        refine k_is (y := (nI ((j + 1) - 1))) (pk_sub (by omega)) ?_
        refine k_is (y := (nI j)) (congrArg nI (by omega)) ?_
        refine lv_bipush (v := nI 32) hx hb dX0_askedWhole_84 (by decide) ?_
        refine lv_iload_n hx hb dX0_askedWhole_86 rfl (lv_at hl 1 rfl) ?_
        refine lv_imul hx hb dX0_askedWhole_87 ?_
        refine k_is (y := (nI (32 * k))) (pk_mul _ _) ?_
        refine lv_iadd hx hb dX0_askedWhole_88 ?_
        refine k_is (y := (nI (j + (32 * k)))) (nI_add _ _) ?_
        by_cases hm : p + (j + 1) ≤ 640
        · refine k_calll (wr := []) (w2 := fun (u_78 : Unit) => [cR q1 qt1 80 sq1, cT qt1 dB f1, cS sq1 sb1 (p + (j + 1)), cB sb1 dB 80 sg1]) (va_runV (As := [.int (nI (j + 32 * k))]) (rest := []) ⟨hx, hb, hml, hown, hts⟩ (m_rd l D dB _ q1 qt1 sq1 sb1 80 f1 p 80 sg1 (nI (j + 32 * k)) (j + 1) (zb_arg2 (by omega) (by omega)) (by omega) (by omega)) (cwV 1 hts (lw_V q67 q68 q69 q4 q70) rfl rfl rfl (by decide +kernel) ⟨Nat.le_of_ble_eq_true rfl, Nat.le_of_ble_eq_true rfl⟩) (k_preV (k_Psub (ws' := [cR q1 qt1 80 sq1, cT qt1 dB f1, cS sq1 sb1 p, cB sb1 dB 80 sg1]) hP [0, 1, 2, 3] rfl) hK (va_D.sub (ws' := [cR q1 qt1 80 sq1, cT qt1 dB f1, cS sq1 sb1 p, cB sb1 dB 80 sg1]) hD [0, 1, 2, 3] (by decide) rfl) 0 0 rfl rfl _) rfl rfl hl.1 rfl (lv_room (Nat.le_of_ble_eq_true rfl)) dX0_askedWhole_89 ⟨Nat.le_of_ble_eq_true rfl, Nat.le_of_ble_eq_true rfl⟩) hP hD hS hA [0, 1, 2, 3] [] [0, 1, 2, 3] rfl rfl (by decide) (by decide) (fun _ => rfl) (by decide) (fun r_79 u_78 H locs hw_80 hP hD hS => ?_)
          have hP : va_P D vwCl [cR q1 qt1 80 sq1, cT qt1 dB f1, cS sq1 sb1 (p + (j + 1)), cB sb1 dB 80 sg1] H := hP
          have hD : va_D A [cR q1 qt1 80 sq1, cT qt1 dB f1, cS sq1 sb1 (p + (j + 1)), cB sb1 dB 80 sg1] := hD
          have hw_80 : r_79 = ((nI (zb_num (fun i => zb_byt (sg1 i)) p (j + 1))).toInt64) := hw_80
          subst hw_80
          refine lv_lstore (lv' := [(5, .long ((nI (zb_num (fun i => zb_byt (sg1 i)) p (j + 1))).toInt64)), (4, .int (nI (j + 1))), (3, .int (nI k)), (2, .int (nI p)), (1, .ref q1), (0, .ref b)]) hx hb dX0_askedWhole_92 hl (by decide) rfl (fun ls hl => ?_)
          refine lv_iload hx hb dX0_askedWhole_94 (lv_at hl 1 rfl) ?_
          refine lv_sipush (v := nI 640) hx hb dX0_askedWhole_96 (by decide) ?_
          refine lv_iload_n hx hb dX0_askedWhole_99 rfl (lv_at hl 3 rfl) ?_
          refine lv_isub hx hb dX0_askedWhole_100 ?_
          refine k_is (y := (nI (640 - p))) (pk_sub (by omega)) ?_
          refine k_le (tgt := 159) hx hb dX0_askedWhole_101 (by decide) (by omega) (by omega) (fun c_81 => ?_) (fun c_81 => absurd c_81 (by omega))
          exact h159 (j + 1) (by omega) (by omega) hm H _ ls hP hD hS (lv_sub hl [0, 1, 2, 3, 4, 5] rfl)
        · refine k_calll (wr := []) (w2 := fun (u_82 : Unit) => [cR q1 qt1 80 sq1, cT qt1 dB f1, cS sq1 sb1 p, cB sb1 dB 80 sg1]) (va_runV (As := [.int (nI (j + 32 * k))]) (rest := []) ⟨hx, hb, hml, hown, hts⟩ (m_rdNo l D dB _ q1 qt1 sq1 sb1 80 f1 p 80 sg1 (nI (j + 32 * k)) (j + 1) (zb_arg2 (by omega) (by omega)) (by omega) (by omega) (by omega)) (cwV 1 hts (lw_V q67 q68 q69 q4 q70) rfl rfl rfl (by decide +kernel) ⟨Nat.le_of_ble_eq_true rfl, Nat.le_of_ble_eq_true rfl⟩) (k_preV (k_Psub (ws' := [cR q1 qt1 80 sq1, cT qt1 dB f1, cS sq1 sb1 p, cB sb1 dB 80 sg1]) hP [0, 1, 2, 3] rfl) hK (va_D.sub (ws' := [cR q1 qt1 80 sq1, cT qt1 dB f1, cS sq1 sb1 p, cB sb1 dB 80 sg1]) hD [0, 1, 2, 3] (by decide) rfl) 0 0 rfl rfl _) rfl rfl hl.1 rfl (lv_room (Nat.le_of_ble_eq_true rfl)) dX0_askedWhole_89 ⟨Nat.le_of_ble_eq_true rfl, Nat.le_of_ble_eq_true rfl⟩) hP hD hS hA [0, 1, 2, 3] [] [0, 1, 2, 3] rfl rfl (by decide) (by decide) (fun _ => rfl) (by decide) (fun r_83 u_82 H locs hw_84 hP hD hS => ?_)
          have hP : va_P D vwCl [cR q1 qt1 80 sq1, cT qt1 dB f1, cS sq1 sb1 p, cB sb1 dB 80 sg1] H := hP
          have hD : va_D A [cR q1 qt1 80 sq1, cT qt1 dB f1, cS sq1 sb1 p, cB sb1 dB 80 sg1] := hD
          have hw_84 : r_83 = 4294967296 := hw_84
          subst hw_84
          refine lv_lstore (lv' := [(5, .long 4294967296), (4, .int (nI (j + 1))), (3, .int (nI k)), (2, .int (nI p)), (1, .ref q1), (0, .ref b)]) hx hb dX0_askedWhole_92 hl (by decide) rfl (fun ls hl => ?_)
          refine lv_iload hx hb dX0_askedWhole_94 (lv_at hl 1 rfl) ?_
          refine lv_sipush (v := nI 640) hx hb dX0_askedWhole_96 (by decide) ?_
          refine lv_iload_n hx hb dX0_askedWhole_99 rfl (lv_at hl 3 rfl) ?_
          refine lv_isub hx hb dX0_askedWhole_100 ?_
          refine k_is (y := (nI (640 - p))) (pk_sub (by omega)) ?_
          refine k_le (tgt := 159) hx hb dX0_askedWhole_101 (by decide) (by omega) (by omega) (fun c_85 => absurd c_85 (by omega)) (fun c_85 => ?_)
          refine lv_lload hx hb dX0_askedWhole_104 (lv_at hl 0 rfl) ?_
          refine lv_ldc2 (v := 4294967296) hx hb hown (hts _ q153) dX0_askedWhole_106 ?_
          refine W.lcmp hx hb dX0_askedWhole_109 ?_
          refine k_is (y := (nI 0)) (k_cmp0 (rfl)) ?_
          refine k_ne0 (tgt := 147) hx hb dX0_askedWhole_110 (by decide) (by omega) (fun c_86 => absurd c_86 (by omega)) (fun c_86 => ?_)
          refine lv_aload_n hx hb dX0_askedWhole_113 rfl (lv_at hl 4 rfl) ?_
          refine k_calli (wr := []) (w2 := fun (u_87 : Unit) => [cR q1 qt1 80 sq1, cT qt1 dB f1, cS sq1 sb1 p, cB sb1 dB 80 sg1]) (va_runV (As := []) (rest := []) ⟨hx, hb, hml, hown, hts⟩ (m_left l D dB _ q1 qt1 sq1 sb1 80 f1 p 80 sg1 (by omega) (by omega)) (cwV 0 hts (lw_V q149 q150 q151 q4 q152) rfl rfl rfl (by decide +kernel) ⟨Nat.le_of_ble_eq_true rfl, Nat.le_of_ble_eq_true rfl⟩) (k_preV (k_Psub (ws' := [cR q1 qt1 80 sq1, cT qt1 dB f1, cS sq1 sb1 p, cB sb1 dB 80 sg1]) hP [0, 1, 2, 3] rfl) hK (va_D.sub (ws' := [cR q1 qt1 80 sq1, cT qt1 dB f1, cS sq1 sb1 p, cB sb1 dB 80 sg1]) hD [0, 1, 2, 3] (by decide) rfl) 0 0 rfl rfl _) rfl rfl hl.1 rfl (lv_room (Nat.le_of_ble_eq_true rfl)) dX0_askedWhole_114 ⟨Nat.le_of_ble_eq_true rfl, Nat.le_of_ble_eq_true rfl⟩) hP hD hS hA [0, 1, 2, 3] [] [0, 1, 2, 3] rfl rfl (by decide) (by decide) (fun _ => rfl) (by decide) (fun r_88 u_87 H locs hw_89 hP hD hS => ?_)
          have hP : va_P D vwCl [cR q1 qt1 80 sq1, cT qt1 dB f1, cS sq1 sb1 p, cB sb1 dB 80 sg1] H := hP
          have hD : va_D A [cR q1 qt1 80 sq1, cT qt1 dB f1, cS sq1 sb1 p, cB sb1 dB 80 sg1] := hD
          have hw_89 : r_88 = (nI (8 * 80 - p)) := hw_89
          subst hw_89
          refine lv_sipush (v := nI 640) hx hb dX0_askedWhole_117 (by decide) ?_
          refine lv_iload_n hx hb dX0_askedWhole_120 rfl (lv_at hl 3 rfl) ?_
          refine lv_isub hx hb dX0_askedWhole_121 ?_
          refine k_is (y := (nI (640 - p))) (pk_sub (by omega)) ?_
          refine k_ne (tgt := 147) hx hb dX0_askedWhole_122 (by decide) (by omega) (by omega) (fun c_90 => absurd c_90 (by omega)) (fun c_90 => ?_)
          refine lv_aload_n hx hb dX0_askedWhole_125 rfl (lv_at hl 4 rfl) ?_
          refine k_calli (wr := []) (w2 := fun (u_91 : Unit) => [cR q1 qt1 80 sq1, cT qt1 dB f1, cS sq1 sb1 p, cB sb1 dB 80 sg1]) (va_runV (As := []) (rest := []) ⟨hx, hb, hml, hown, hts⟩ (m_octet l D dB _ q1 qt1 sq1 sb1 80 f1 p 80 sg1) (cwV 0 hts (lw_V q155 q156 q157 q4 q158) rfl rfl rfl (by decide +kernel) ⟨Nat.le_of_ble_eq_true rfl, Nat.le_of_ble_eq_true rfl⟩) (k_preV (k_Psub (ws' := [cR q1 qt1 80 sq1, cT qt1 dB f1, cS sq1 sb1 p, cB sb1 dB 80 sg1]) hP [0, 1, 2, 3] rfl) hK (va_D.sub (ws' := [cR q1 qt1 80 sq1, cT qt1 dB f1, cS sq1 sb1 p, cB sb1 dB 80 sg1]) hD [0, 1, 2, 3] (by decide) rfl) 0 0 rfl rfl _) rfl rfl hl.1 rfl (lv_room (Nat.le_of_ble_eq_true rfl)) dX0_askedWhole_126 ⟨Nat.le_of_ble_eq_true rfl, Nat.le_of_ble_eq_true rfl⟩) hP hD hS hA [0, 1, 2, 3] [] [0, 1, 2, 3] rfl rfl (by decide) (by decide) (fun _ => rfl) (by decide) (fun r_92 u_91 H locs hw_93 hP hD hS => ?_)
          have hP : va_P D vwCl [cR q1 qt1 80 sq1, cT qt1 dB f1, cS sq1 sb1 p, cB sb1 dB 80 sg1] H := hP
          have hD : va_D A [cR q1 qt1 80 sq1, cT qt1 dB f1, cS sq1 sb1 p, cB sb1 dB 80 sg1] := hD
          have hw_93 : r_92 = (nI (p / 8)) := hw_93
          subst hw_93
          refine lv_iload_n hx hb dX0_askedWhole_129 rfl (lv_at hl 3 rfl) ?_
          refine lv_bipush (v := nI 8) hx hb dX0_askedWhole_130 (by decide) ?_
          refine lv_idiv hx hb dX0_askedWhole_132 (nI_ne0 (by omega) (by omega)) ?_
          refine k_is (y := (nI (p / 8))) (pk_div (by omega) (by omega) (by omega)) ?_
          refine k_ne (tgt := 147) hx hb dX0_askedWhole_133 (by decide) (by omega) (by omega) (fun c_94 => absurd c_94 (by omega)) (fun c_94 => ?_)
          refine lv_aload_n hx hb dX0_askedWhole_136 rfl (lv_at hl 4 rfl) ?_
          refine k_calli (wr := []) (w2 := fun (u_95 : Unit) => [cR q1 qt1 80 sq1, cT qt1 dB f1, cS sq1 sb1 p, cB sb1 dB 80 sg1]) (va_runV (As := []) (rest := []) ⟨hx, hb, hml, hown, hts⟩ (m_bits l D dB _ q1 qt1 sq1 sb1 80 f1 p 80 sg1) (cwV 0 hts (lw_V q163 q164 q165 q4 q166) rfl rfl rfl (by decide +kernel) ⟨Nat.le_of_ble_eq_true rfl, Nat.le_of_ble_eq_true rfl⟩) (k_preV (k_Psub (ws' := [cR q1 qt1 80 sq1, cT qt1 dB f1, cS sq1 sb1 p, cB sb1 dB 80 sg1]) hP [0, 1, 2, 3] rfl) hK (va_D.sub (ws' := [cR q1 qt1 80 sq1, cT qt1 dB f1, cS sq1 sb1 p, cB sb1 dB 80 sg1]) hD [0, 1, 2, 3] (by decide) rfl) 0 0 rfl rfl _) rfl rfl hl.1 rfl (lv_room (Nat.le_of_ble_eq_true rfl)) dX0_askedWhole_137 ⟨Nat.le_of_ble_eq_true rfl, Nat.le_of_ble_eq_true rfl⟩) hP hD hS hA [0, 1, 2, 3] [] [0, 1, 2, 3] rfl rfl (by decide) (by decide) (fun _ => rfl) (by decide) (fun r_96 u_95 H locs hw_97 hP hD hS => ?_)
          have hP : va_P D vwCl [cR q1 qt1 80 sq1, cT qt1 dB f1, cS sq1 sb1 p, cB sb1 dB 80 sg1] H := hP
          have hD : va_D A [cR q1 qt1 80 sq1, cT qt1 dB f1, cS sq1 sb1 p, cB sb1 dB 80 sg1] := hD
          have hw_97 : r_96 = (nI (p % 8)) := hw_97
          subst hw_97
          refine lv_iload_n hx hb dX0_askedWhole_140 rfl (lv_at hl 3 rfl) ?_
          refine lv_bipush (v := nI 8) hx hb dX0_askedWhole_141 (by decide) ?_
          refine lv_irem hx hb dX0_askedWhole_143 (nI_ne0 (by omega) (by omega)) ?_
          refine k_is (y := (nI (p % 8))) (pk_rem (by omega) (by omega) (by omega)) ?_
          refine k_eq (tgt := 149) hx hb dX0_askedWhole_144 (by decide) (by omega) (by omega) (fun c_98 => ?_) (fun c_98 => absurd c_98 (by omega))
          refine lv_iconst (v := nI 1) hx hb dX0_askedWhole_149 (by decide) ?_
          refine lv_istore (lv' := [(4, .int (nI 1)), (5, .long 4294967296), (3, .int (nI k)), (2, .int (nI p)), (1, .ref q1), (0, .ref b)]) hx hb dX0_askedWhole_150 hl (by decide) rfl (fun ls hl => ?_)
          refine lv_aload_n hx hb dX0_askedWhole_152 rfl (lv_at hl 4 rfl) ?_
          refine lv_iconst (v := nI 0) hx hb dX0_askedWhole_153 (by decide) ?_
          refine k_calll (wr := []) (w2 := fun (u_99 : Unit) => [cR q1 qt1 80 sq1, cT qt1 dB f1, cS sq1 sb1 (p + 1), cB sb1 dB 80 sg1]) (va_runV (As := [.int (nI 0)]) (rest := []) ⟨hx, hb, hml, hown, hts⟩ (m_rd l D dB _ q1 qt1 sq1 sb1 80 f1 p 80 sg1 (nI 0) 1 (by decide) (by omega) (by omega)) (cwV 1 hts (lw_V q67 q68 q69 q4 q70) rfl rfl rfl (by decide +kernel) ⟨Nat.le_of_ble_eq_true rfl, Nat.le_of_ble_eq_true rfl⟩) (k_preV (k_Psub (ws' := [cR q1 qt1 80 sq1, cT qt1 dB f1, cS sq1 sb1 p, cB sb1 dB 80 sg1]) hP [0, 1, 2, 3] rfl) hK (va_D.sub (ws' := [cR q1 qt1 80 sq1, cT qt1 dB f1, cS sq1 sb1 p, cB sb1 dB 80 sg1]) hD [0, 1, 2, 3] (by decide) rfl) 0 0 rfl rfl _) rfl rfl hl.1 rfl (lv_room (Nat.le_of_ble_eq_true rfl)) dX0_askedWhole_154 ⟨Nat.le_of_ble_eq_true rfl, Nat.le_of_ble_eq_true rfl⟩) hP hD hS hA [0, 1, 2, 3] [] [0, 1, 2, 3] rfl rfl (by decide) (by decide) (fun _ => rfl) (by decide) (fun r_100 u_99 H locs hw_101 hP hD hS => ?_)
          have hP : va_P D vwCl [cR q1 qt1 80 sq1, cT qt1 dB f1, cS sq1 sb1 (p + 1), cB sb1 dB 80 sg1] H := hP
          have hD : va_D A [cR q1 qt1 80 sq1, cT qt1 dB f1, cS sq1 sb1 (p + 1), cB sb1 dB 80 sg1] := hD
          have hw_101 : r_100 = ((nI (zb_num (fun i => zb_byt (sg1 i)) p 1)).toInt64) := hw_101
          subst hw_101
          refine lv_lstore (lv' := [(5, .long ((nI (zb_num (fun i => zb_byt (sg1 i)) p 1)).toInt64)), (4, .int (nI 1)), (3, .int (nI k)), (2, .int (nI p)), (1, .ref q1), (0, .ref b)]) hx hb dX0_askedWhole_157 hl (by decide) rfl (fun ls hl => ?_)
          exact h159 1 (by omega) (by omega) (by omega) H _ ls hP hD hS (lv_sub hl [0, 1, 2, 3, 4, 5] rfl)
  exact hloop 640 0 0 (Nat.le_refl _) (Nat.zero_le _) (Nat.zero_le _) H _ ls hP hD hS (lv_sub hl [0, 1, 2, 3] rfl)
end
section
/-! askedBegun(s), askedMost() -/
set_option maxRecDepth 100000
theorem zb_three {g : Nat → Int32} {L : Nat} {xs : Nat → Int32} (hg : ∀ i, i < 80 → zb_byt (g i) = zb_sb L xs i) : zb_num (fun i => zb_byt (g i)) (0 + 5) 3 = (zb_cel L xs 0).toBitVec.toNat / 2 ^ 24 % 8 := by
  have h : zb_num (fun i => zb_byt (g i)) (0 + 5) 3 = zb_byt (g ((0 + 5) / 8)) / 2 ^ (8 - (0 + 5) % 8 - 3) % 2 ^ 3 := zb_num_in (fun i => zb_byt (g i)) (0 + 5) 3 (by decide)
  rw [h, show (0 + 5) / 8 = 0 from rfl, hg 0 (by decide)]
  show (zb_cel L xs 0).toBitVec.toNat / 2 ^ 24 % 256 / 2 ^ 0 % 2 ^ 3 = _
  rw [zb_nat_low _ 3 0 (by decide), Nat.pow_zero, Nat.div_one]
theorem zb_first {f f1 g : Nat → Int32} {w0 w1 w2 w3 : Int32} (hg : ∀ j, j < 1 → zb_byt (g j) = zb_byt (f1 j)) (hp : ∀ i, zb_byt (f1 i) = if 0 ≤ i ∧ i < 0 + 16 then zb_in4 (zb_pick w0 w1 w2 w3 ((i - 0) / 4)) ((i - 0) % 4) else zb_byt (f i)) : zb_num (fun i => zb_byt (g i)) 0 8 = w0.toBitVec.toNat / 2 ^ 24 := by
  have h : zb_num (fun i => zb_byt (g i)) 0 8 = zb_num (fun i => zb_byt (g i)) 0 0 * 2 ^ 8 + zb_byt (g ((0 + 0) / 8)) := zb_step8 (fun i => zb_byt (g i)) 0 0 (by decide) (zb_byt_lt _)
  rw [h, zb_num_0, Nat.zero_mul, Nat.zero_add, show (0 : Nat) / 8 = 0 from rfl, hg 0 (by decide), hp, if_pos ⟨Nat.le_refl 0, by decide⟩]
  show w0.toBitVec.toNat / 2 ^ 24 % 256 = _
  have h2 := w0.toBitVec.isLt
  omega
set_option maxHeartbeats 4000000 in
set_option maxRecDepth 100000 in
/-- askedBegun(s) answers true -/
theorem m_begun (l : Launch) (D : va_G) (dB : ClassId) (sz : Nat) (b L : Nat) (xs : Nat → Int32) (hL : L ≤ 40) : Met l yX0_askedBegun (ws_ yX0_askedBegun cX0_askedBegun 2 (some .boolean)) ({ frames := 4, cells := 10, slots := 16399, locals := 110 }) (k_Px D [(dB, .byte)] [.ref b] b L xs sz) (va_Qi (fun (r : Int32) (_ : Unit) => r = nI 1) (fun (_ : Unit) (_ : State) => True) (va_A [] sz)) 10 16399 (va_A [] sz) := by
  refine Met.ofW (cc := cX0_askedBegun) (maxL := 2) (ret := (some .boolean)) (by decide) rfl ?_
  intro pg e s m args below meth c s₁ B hml hv
  obtain ⟨rfl, hsz, hK, hX, hbl⟩ := hv
  have hx := B.exec
  have hb := B.bytes
  have hr := B.returns
  have hts := atoms_spec (ws := (ws_ yX0_askedBegun cX0_askedBegun 2 (some .boolean))) B.pre
  have hts : ∀ w ∈ lw_all, w.before _ s = true := fun w h => hts w (List.mem_cons_of_mem _ h)
  have hown : s.vm.findClass RX0 = some m.cls := findClass_of_methodNamed B.named
  have hlocks := B.notSynchronized
  subst hsz
  have hP : va_P D vwCl [] s.heap := fun k q h => by simp at h
  have hD : va_D (va_A [] s.heap.size) [] := ⟨fun i j p q h => by simp at h, fun k q h => by simp at h⟩
  have hbA : ¬ va_A [] s.heap.size b := k_bA hbl
  generalize hAe : va_A [] s.heap.size = A at hD hbA ⊢
  have hA : ∀ q : Nat, s.heap.size ≤ q → A q := fun q h => by rw [← hAe]; exact Or.inr h
  have hS : va_S A s.heap s.heap [] := va_S.rf
  have hl := lv_entry ([.ref b]) (n := 2) (Nat.le_of_ble_eq_true rfl)
  rw [lg_entry_eq]
  generalize (lg_sl ([.ref b]) ++ List.replicate (2 - (lg_sl ([.ref b])).length) Slot.unset).toArray = ls at hl ⊢
  have hl : lv_has ls 2 [(0, .ref b)] := hl
  refine lv_aload_n hx hb dX0_askedBegun_0 rfl (lv_at hl 0 rfl) ?_
  refine k_callr (va_runS (As := [.ref b]) (rest := []) ⟨hx, hb, hml, hown, hts⟩ (m_amade l D dB _ b L xs hL) (va_cwS 1 hts (lw_S q174 q175 q3 q176) rfl rfl rfl (by decide +kernel) ⟨Nat.le_of_ble_eq_true rfl, Nat.le_of_ble_eq_true rfl⟩) (k_preX hK hX hbl hbA hS _) rfl rfl hl.1 rfl (lv_room (Nat.le_of_ble_eq_true rfl)) dX0_askedBegun_1 ⟨Nat.le_of_ble_eq_true rfl, Nat.le_of_ble_eq_true rfl⟩) hP hD hS hA [] rfl (by decide) (fun u_1 q1 H locs hw_2 hP hD hS => ?_)
  obtain ⟨qt1, qs1, qb1, f1⟩ := u_1
  have hP : va_P D vwCl [cR q1 qt1 80 qs1, cT qt1 dB f1, cS qs1 qb1 0, cB qb1 dB 0 (fun _ => 0)] H := hP
  have hD : va_D A [cR q1 qt1 80 qs1, cT qt1 dB f1, cS qs1 qb1 0, cB qb1 dB 0 (fun _ => 0)] := hD
  have hw_2 : ∀ i, i < 80 → zb_byt (f1 i) = zb_sb L xs i := hw_2
  have hf1 := hw_2
  refine lv_astore_n (lv' := [(1, .ref q1), (0, .ref b)]) hx hb dX0_askedBegun_4 rfl hl (by decide) rfl (fun ls hl => ?_)
  refine lv_aload_n hx hb dX0_askedBegun_5 rfl (lv_at hl 0 rfl) ?_
  refine k_calli (wr := []) (w2 := fun (u_3 : Unit) => [cR q1 qt1 80 qs1, cT qt1 dB f1, cS qs1 qb1 0, cB qb1 dB 0 (fun _ => 0)]) (va_runV (As := []) (rest := []) ⟨hx, hb, hml, hown, hts⟩ (m_left l D dB _ q1 qt1 qs1 qb1 80 f1 0 0 (fun _ => 0) (by omega) (by omega)) (cwV 0 hts (lw_V q149 q150 q151 q4 q152) rfl rfl rfl (by decide +kernel) ⟨Nat.le_of_ble_eq_true rfl, Nat.le_of_ble_eq_true rfl⟩) (k_preV (k_Psub (ws' := [cR q1 qt1 80 qs1, cT qt1 dB f1, cS qs1 qb1 0, cB qb1 dB 0 (fun _ => 0)]) hP [0, 1, 2, 3] rfl) hK (va_D.sub (ws' := [cR q1 qt1 80 qs1, cT qt1 dB f1, cS qs1 qb1 0, cB qb1 dB 0 (fun _ => 0)]) hD [0, 1, 2, 3] (by decide) rfl) 0 0 rfl rfl _) rfl rfl hl.1 rfl (lv_room (Nat.le_of_ble_eq_true rfl)) dX0_askedBegun_6 ⟨Nat.le_of_ble_eq_true rfl, Nat.le_of_ble_eq_true rfl⟩) hP hD hS hA [0, 1, 2, 3] [] [0, 1, 2, 3] rfl rfl (by decide) (by decide) (fun _ => rfl) (by decide) (fun r_4 u_3 H locs hw_5 hP hD hS => ?_)
  have hP : va_P D vwCl [cR q1 qt1 80 qs1, cT qt1 dB f1, cS qs1 qb1 0, cB qb1 dB 0 (fun _ => 0)] H := hP
  have hD : va_D A [cR q1 qt1 80 qs1, cT qt1 dB f1, cS qs1 qb1 0, cB qb1 dB 0 (fun _ => 0)] := hD
  have hw_5 : r_4 = (nI (8 * 0 - 0)) := hw_5
  subst hw_5
  refine k_ne0 (tgt := 47) hx hb dX0_askedBegun_9 (by decide) (by omega) (fun c_6 => absurd c_6 (by omega)) (fun c_6 => ?_)
  refine lv_aload_n hx hb dX0_askedBegun_12 rfl (lv_at hl 0 rfl) ?_
  refine lv_iconst (v := nI 0) hx hb dX0_askedBegun_13 (by decide) ?_
  refine k_calll (wr := []) (w2 := fun (u_7 : Unit) => [cR q1 qt1 80 qs1, cT qt1 dB f1, cS qs1 qb1 0, cB qb1 dB 0 (fun _ => 0)]) (va_runV (As := [.int (nI 0)]) (rest := []) ⟨hx, hb, hml, hown, hts⟩ (m_rdNo l D dB _ q1 qt1 qs1 qb1 80 f1 0 0 (fun _ => 0) (nI 0) 1 (by decide) (by omega) (by omega) (by omega)) (cwV 1 hts (lw_V q67 q68 q69 q4 q70) rfl rfl rfl (by decide +kernel) ⟨Nat.le_of_ble_eq_true rfl, Nat.le_of_ble_eq_true rfl⟩) (k_preV (k_Psub (ws' := [cR q1 qt1 80 qs1, cT qt1 dB f1, cS qs1 qb1 0, cB qb1 dB 0 (fun _ => 0)]) hP [0, 1, 2, 3] rfl) hK (va_D.sub (ws' := [cR q1 qt1 80 qs1, cT qt1 dB f1, cS qs1 qb1 0, cB qb1 dB 0 (fun _ => 0)]) hD [0, 1, 2, 3] (by decide) rfl) 0 0 rfl rfl _) rfl rfl hl.1 rfl (lv_room (Nat.le_of_ble_eq_true rfl)) dX0_askedBegun_14 ⟨Nat.le_of_ble_eq_true rfl, Nat.le_of_ble_eq_true rfl⟩) hP hD hS hA [0, 1, 2, 3] [] [0, 1, 2, 3] rfl rfl (by decide) (by decide) (fun _ => rfl) (by decide) (fun r_8 u_7 H locs hw_9 hP hD hS => ?_)
  have hP : va_P D vwCl [cR q1 qt1 80 qs1, cT qt1 dB f1, cS qs1 qb1 0, cB qb1 dB 0 (fun _ => 0)] H := hP
  have hD : va_D A [cR q1 qt1 80 qs1, cT qt1 dB f1, cS qs1 qb1 0, cB qb1 dB 0 (fun _ => 0)] := hD
  have hw_9 : r_8 = 4294967296 := hw_9
  subst hw_9
  refine lv_ldc2 (v := 4294967296) hx hb hown (hts _ q153) dX0_askedBegun_17 ?_
  refine W.lcmp hx hb dX0_askedBegun_20 ?_
  refine k_is (y := (nI 0)) (k_cmp0 (rfl)) ?_
  refine k_ne0 (tgt := 47) hx hb dX0_askedBegun_21 (by decide) (by omega) (fun c_10 => absurd c_10 (by omega)) (fun c_10 => ?_)
  refine lv_aload_n hx hb dX0_askedBegun_24 rfl (lv_at hl 0 rfl) ?_
  refine k_calli (wr := []) (w2 := fun (u_11 : Unit) => [cR q1 qt1 80 qs1, cT qt1 dB f1, cS qs1 qb1 0, cB qb1 dB 0 (fun _ => 0)]) (va_runV (As := []) (rest := []) ⟨hx, hb, hml, hown, hts⟩ (m_octet l D dB _ q1 qt1 qs1 qb1 80 f1 0 0 (fun _ => 0)) (cwV 0 hts (lw_V q155 q156 q157 q4 q158) rfl rfl rfl (by decide +kernel) ⟨Nat.le_of_ble_eq_true rfl, Nat.le_of_ble_eq_true rfl⟩) (k_preV (k_Psub (ws' := [cR q1 qt1 80 qs1, cT qt1 dB f1, cS qs1 qb1 0, cB qb1 dB 0 (fun _ => 0)]) hP [0, 1, 2, 3] rfl) hK (va_D.sub (ws' := [cR q1 qt1 80 qs1, cT qt1 dB f1, cS qs1 qb1 0, cB qb1 dB 0 (fun _ => 0)]) hD [0, 1, 2, 3] (by decide) rfl) 0 0 rfl rfl _) rfl rfl hl.1 rfl (lv_room (Nat.le_of_ble_eq_true rfl)) dX0_askedBegun_25 ⟨Nat.le_of_ble_eq_true rfl, Nat.le_of_ble_eq_true rfl⟩) hP hD hS hA [0, 1, 2, 3] [] [0, 1, 2, 3] rfl rfl (by decide) (by decide) (fun _ => rfl) (by decide) (fun r_12 u_11 H locs hw_13 hP hD hS => ?_)
  have hP : va_P D vwCl [cR q1 qt1 80 qs1, cT qt1 dB f1, cS qs1 qb1 0, cB qb1 dB 0 (fun _ => 0)] H := hP
  have hD : va_D A [cR q1 qt1 80 qs1, cT qt1 dB f1, cS qs1 qb1 0, cB qb1 dB 0 (fun _ => 0)] := hD
  have hw_13 : r_12 = (nI (0 / 8)) := hw_13
  subst hw_13
  refine k_ne0 (tgt := 47) hx hb dX0_askedBegun_28 (by decide) (by omega) (fun c_14 => absurd c_14 (by omega)) (fun c_14 => ?_)
  refine lv_aload_n hx hb dX0_askedBegun_31 rfl (lv_at hl 0 rfl) ?_
  refine k_calli (wr := []) (w2 := fun (u_15 : Unit) => [cR q1 qt1 80 qs1, cT qt1 dB f1, cS qs1 qb1 0, cB qb1 dB 0 (fun _ => 0)]) (va_runV (As := []) (rest := []) ⟨hx, hb, hml, hown, hts⟩ (m_bits l D dB _ q1 qt1 qs1 qb1 80 f1 0 0 (fun _ => 0)) (cwV 0 hts (lw_V q163 q164 q165 q4 q166) rfl rfl rfl (by decide +kernel) ⟨Nat.le_of_ble_eq_true rfl, Nat.le_of_ble_eq_true rfl⟩) (k_preV (k_Psub (ws' := [cR q1 qt1 80 qs1, cT qt1 dB f1, cS qs1 qb1 0, cB qb1 dB 0 (fun _ => 0)]) hP [0, 1, 2, 3] rfl) hK (va_D.sub (ws' := [cR q1 qt1 80 qs1, cT qt1 dB f1, cS qs1 qb1 0, cB qb1 dB 0 (fun _ => 0)]) hD [0, 1, 2, 3] (by decide) rfl) 0 0 rfl rfl _) rfl rfl hl.1 rfl (lv_room (Nat.le_of_ble_eq_true rfl)) dX0_askedBegun_32 ⟨Nat.le_of_ble_eq_true rfl, Nat.le_of_ble_eq_true rfl⟩) hP hD hS hA [0, 1, 2, 3] [] [0, 1, 2, 3] rfl rfl (by decide) (by decide) (fun _ => rfl) (by decide) (fun r_16 u_15 H locs hw_17 hP hD hS => ?_)
  have hP : va_P D vwCl [cR q1 qt1 80 qs1, cT qt1 dB f1, cS qs1 qb1 0, cB qb1 dB 0 (fun _ => 0)] H := hP
  have hD : va_D A [cR q1 qt1 80 qs1, cT qt1 dB f1, cS qs1 qb1 0, cB qb1 dB 0 (fun _ => 0)] := hD
  have hw_17 : r_16 = (nI (0 % 8)) := hw_17
  subst hw_17
  refine k_ne0 (tgt := 47) hx hb dX0_askedBegun_35 (by decide) (by omega) (fun c_18 => absurd c_18 (by omega)) (fun c_18 => ?_)
  refine lv_aload_n hx hb dX0_askedBegun_38 rfl (lv_at hl 0 rfl) ?_
  refine k_calli (wr := []) (w2 := fun (u_19 : Unit) => [cR q1 qt1 80 qs1, cT qt1 dB f1, cS qs1 qb1 0, cB qb1 dB 0 (fun _ => 0)]) (va_runV (As := []) (rest := []) ⟨hx, hb, hml, hown, hts⟩ (m_size l D dB _ q1 qt1 qs1 qb1 80 f1 0 0 (fun _ => 0)) (cwV 0 hts (lw_V q183 q184 q185 q4 q186) rfl rfl rfl (by decide +kernel) ⟨Nat.le_of_ble_eq_true rfl, Nat.le_of_ble_eq_true rfl⟩) (k_preV (k_Psub (ws' := [cR q1 qt1 80 qs1, cT qt1 dB f1, cS qs1 qb1 0, cB qb1 dB 0 (fun _ => 0)]) hP [0, 1, 2, 3] rfl) hK (va_D.sub (ws' := [cR q1 qt1 80 qs1, cT qt1 dB f1, cS qs1 qb1 0, cB qb1 dB 0 (fun _ => 0)]) hD [0, 1, 2, 3] (by decide) rfl) 0 0 rfl rfl _) rfl rfl hl.1 rfl (lv_room (Nat.le_of_ble_eq_true rfl)) dX0_askedBegun_39 ⟨Nat.le_of_ble_eq_true rfl, Nat.le_of_ble_eq_true rfl⟩) hP hD hS hA [0, 1, 2, 3] [] [0, 1, 2, 3] rfl rfl (by decide) (by decide) (fun _ => rfl) (by decide) (fun r_20 u_19 H locs hw_21 hP hD hS => ?_)
  have hP : va_P D vwCl [cR q1 qt1 80 qs1, cT qt1 dB f1, cS qs1 qb1 0, cB qb1 dB 0 (fun _ => 0)] H := hP
  have hD : va_D A [cR q1 qt1 80 qs1, cT qt1 dB f1, cS qs1 qb1 0, cB qb1 dB 0 (fun _ => 0)] := hD
  have hw_21 : r_20 = (nI 80) := hw_21
  subst hw_21
  refine lv_bipush (v := nI 80) hx hb dX0_askedBegun_42 (by decide) ?_
  refine k_eq (tgt := 49) hx hb dX0_askedBegun_44 (by decide) (by omega) (by omega) (fun c_22 => ?_) (fun c_22 => absurd c_22 (by omega))
  refine lv_aload_n hx hb dX0_askedBegun_49 rfl (lv_at hl 0 rfl) ?_
  refine k_callv (wr := []) (w2 := fun (u_23 : Nat × Nat × (Nat → Int32)) => [cR q1 qt1 80 u_23.1, cT qt1 dB f1, cS u_23.1 u_23.2.1 0, cB u_23.2.1 dB 80 u_23.2.2]) (va_runV (As := []) (rest := []) ⟨hx, hb, hml, hown, hts⟩ (m_begin l D dB _ q1 qt1 qs1 qb1 80 f1 0 0 (fun _ => 0) (by omega)) (cwV 0 hts (lw_V q63 q64 q65 q4 q66) rfl rfl rfl (by decide +kernel) ⟨Nat.le_of_ble_eq_true rfl, Nat.le_of_ble_eq_true rfl⟩) (k_preV (k_Psub (ws' := [cR q1 qt1 80 qs1, cT qt1 dB f1, cS qs1 qb1 0, cB qb1 dB 0 (fun _ => 0)]) hP [0, 1, 2, 3] rfl) hK (va_D.sub (ws' := [cR q1 qt1 80 qs1, cT qt1 dB f1, cS qs1 qb1 0, cB qb1 dB 0 (fun _ => 0)]) hD [0, 1, 2, 3] (by decide) rfl) 0 0 rfl rfl _) rfl rfl hl.1 rfl (lv_room (Nat.le_of_ble_eq_true rfl)) dX0_askedBegun_50 ⟨Nat.le_of_ble_eq_true rfl, Nat.le_of_ble_eq_true rfl⟩) hP hD hS hA [0, 1, 2, 3] [] [0, 1, 2, 3] rfl rfl (by decide) (by decide) (fun _ => rfl) (by decide) (fun u_23 H locs hw_25 hP hD hS => ?_)
  obtain ⟨sq1, sb1, sg1⟩ := u_23
  have hP : va_P D vwCl [cR q1 qt1 80 sq1, cT qt1 dB f1, cS sq1 sb1 0, cB sb1 dB 80 sg1] H := hP
  have hD : va_D A [cR q1 qt1 80 sq1, cT qt1 dB f1, cS sq1 sb1 0, cB sb1 dB 80 sg1] := hD
  have hw_25 : ∀ j, j < 80 → zb_byt (sg1 j) = zb_byt (f1 j) := hw_25
  have hg1 := hw_25
  have hgs : ∀ i, i < 80 → zb_byt (sg1 i) = zb_sb L xs i := fun i hi => (hg1 i hi).trans (hf1 i hi)
  refine lv_aload_n hx hb dX0_askedBegun_53 rfl (lv_at hl 0 rfl) ?_
  refine lv_iconst (v := nI 4) hx hb dX0_askedBegun_54 (by decide) ?_
  refine k_calll (wr := []) (w2 := fun (u_26 : Unit) => [cR q1 qt1 80 sq1, cT qt1 dB f1, cS sq1 sb1 (0 + 5), cB sb1 dB 80 sg1]) (va_runV (As := [.int (nI 4)]) (rest := []) ⟨hx, hb, hml, hown, hts⟩ (m_rd l D dB _ q1 qt1 sq1 sb1 80 f1 0 80 sg1 (nI 4) 5 (by decide) (by omega) (by omega)) (cwV 1 hts (lw_V q67 q68 q69 q4 q70) rfl rfl rfl (by decide +kernel) ⟨Nat.le_of_ble_eq_true rfl, Nat.le_of_ble_eq_true rfl⟩) (k_preV (k_Psub (ws' := [cR q1 qt1 80 sq1, cT qt1 dB f1, cS sq1 sb1 0, cB sb1 dB 80 sg1]) hP [0, 1, 2, 3] rfl) hK (va_D.sub (ws' := [cR q1 qt1 80 sq1, cT qt1 dB f1, cS sq1 sb1 0, cB sb1 dB 80 sg1]) hD [0, 1, 2, 3] (by decide) rfl) 0 0 rfl rfl _) rfl rfl hl.1 rfl (lv_room (Nat.le_of_ble_eq_true rfl)) dX0_askedBegun_55 ⟨Nat.le_of_ble_eq_true rfl, Nat.le_of_ble_eq_true rfl⟩) hP hD hS hA [0, 1, 2, 3] [] [0, 1, 2, 3] rfl rfl (by decide) (by decide) (fun _ => rfl) (by decide) (fun r_27 u_26 H locs hw_28 hP hD hS => ?_)
  have hP : va_P D vwCl [cR q1 qt1 80 sq1, cT qt1 dB f1, cS sq1 sb1 (0 + 5), cB sb1 dB 80 sg1] H := hP
  have hD : va_D A [cR q1 qt1 80 sq1, cT qt1 dB f1, cS sq1 sb1 (0 + 5), cB sb1 dB 80 sg1] := hD
  have hw_28 : r_27 = ((nI (zb_num (fun i => zb_byt (sg1 i)) 0 5)).toInt64) := hw_28
  subst hw_28
  refine lv_pop2_2 hx hb dX0_askedBegun_58 rfl ?_
  refine lv_aload_n hx hb dX0_askedBegun_59 rfl (lv_at hl 0 rfl) ?_
  refine lv_iconst (v := nI 0) hx hb dX0_askedBegun_60 (by decide) ?_
  refine k_callv (wr := []) (w2 := fun (u_29 : Unit) => [cR q1 qt1 (((nI 0) : Int32).toBitVec.toNat % 2 ^ 31 % (80 + 1)) sq1, cT qt1 dB f1, cS sq1 sb1 (0 + 5), cB sb1 dB 80 sg1]) (va_runV (As := [.int (nI 0)]) (rest := []) ⟨hx, hb, hml, hown, hts⟩ (m_trim l D dB _ q1 qt1 sq1 sb1 80 f1 (0 + 5) 80 sg1 (nI 0) (by omega)) (cwV 1 hts (lw_V q187 q188 q189 q4 q190) rfl rfl rfl (by decide +kernel) ⟨Nat.le_of_ble_eq_true rfl, Nat.le_of_ble_eq_true rfl⟩) (k_preV (k_Psub (ws' := [cR q1 qt1 80 sq1, cT qt1 dB f1, cS sq1 sb1 (0 + 5), cB sb1 dB 80 sg1]) hP [0, 1, 2, 3] rfl) hK (va_D.sub (ws' := [cR q1 qt1 80 sq1, cT qt1 dB f1, cS sq1 sb1 (0 + 5), cB sb1 dB 80 sg1]) hD [0, 1, 2, 3] (by decide) rfl) 0 0 rfl rfl _) rfl rfl hl.1 rfl (lv_room (Nat.le_of_ble_eq_true rfl)) dX0_askedBegun_61 ⟨Nat.le_of_ble_eq_true rfl, Nat.le_of_ble_eq_true rfl⟩) hP hD hS hA [0, 1, 2, 3] [] [0, 1, 2, 3] rfl rfl (by decide) (by decide) (fun _ => rfl) (by decide) (fun u_29 H locs hw_31 hP hD hS => ?_)
  have hP : va_P D vwCl [cR q1 qt1 (((nI 0) : Int32).toBitVec.toNat % 2 ^ 31 % (80 + 1)) sq1, cT qt1 dB f1, cS sq1 sb1 (0 + 5), cB sb1 dB 80 sg1] H := hP
  have hD : va_D A [cR q1 qt1 (((nI 0) : Int32).toBitVec.toNat % 2 ^ 31 % (80 + 1)) sq1, cT qt1 dB f1, cS sq1 sb1 (0 + 5), cB sb1 dB 80 sg1] := hD
  have ez_32 : ((nI 0) : Int32).toBitVec.toNat % 2 ^ 31 % (80 + 1) = 0 := by decide +kernel
  rw [ez_32] at hP hD
  have hP : va_P D vwCl [cR q1 qt1 0 sq1, cT qt1 dB f1, cS sq1 sb1 (0 + 5), cB sb1 dB 80 sg1] H := hP
  have hD : va_D A [cR q1 qt1 0 sq1, cT qt1 dB f1, cS sq1 sb1 (0 + 5), cB sb1 dB 80 sg1] := hD
  refine lv_aload_n hx hb dX0_askedBegun_64 rfl (lv_at hl 0 rfl) ?_
  refine k_calli (wr := []) (w2 := fun (u_33 : Unit) => [cR q1 qt1 0 sq1, cT qt1 dB f1, cS sq1 sb1 (0 + 5), cB sb1 dB 80 sg1]) (va_runV (As := []) (rest := []) ⟨hx, hb, hml, hown, hts⟩ (m_left l D dB _ q1 qt1 sq1 sb1 0 f1 (0 + 5) 80 sg1 (by omega) (by omega)) (cwV 0 hts (lw_V q149 q150 q151 q4 q152) rfl rfl rfl (by decide +kernel) ⟨Nat.le_of_ble_eq_true rfl, Nat.le_of_ble_eq_true rfl⟩) (k_preV (k_Psub (ws' := [cR q1 qt1 0 sq1, cT qt1 dB f1, cS sq1 sb1 (0 + 5), cB sb1 dB 80 sg1]) hP [0, 1, 2, 3] rfl) hK (va_D.sub (ws' := [cR q1 qt1 0 sq1, cT qt1 dB f1, cS sq1 sb1 (0 + 5), cB sb1 dB 80 sg1]) hD [0, 1, 2, 3] (by decide) rfl) 0 0 rfl rfl _) rfl rfl hl.1 rfl (lv_room (Nat.le_of_ble_eq_true rfl)) dX0_askedBegun_65 ⟨Nat.le_of_ble_eq_true rfl, Nat.le_of_ble_eq_true rfl⟩) hP hD hS hA [0, 1, 2, 3] [] [0, 1, 2, 3] rfl rfl (by decide) (by decide) (fun _ => rfl) (by decide) (fun r_34 u_33 H locs hw_35 hP hD hS => ?_)
  have hP : va_P D vwCl [cR q1 qt1 0 sq1, cT qt1 dB f1, cS sq1 sb1 (0 + 5), cB sb1 dB 80 sg1] H := hP
  have hD : va_D A [cR q1 qt1 0 sq1, cT qt1 dB f1, cS sq1 sb1 (0 + 5), cB sb1 dB 80 sg1] := hD
  have hw_35 : r_34 = (nI (8 * 80 - (0 + 5))) := hw_35
  subst hw_35
  refine lv_sipush (v := nI 635) hx hb dX0_askedBegun_68 (by decide) ?_
  refine k_ne (tgt := 95) hx hb dX0_askedBegun_71 (by decide) (by omega) (by omega) (fun c_36 => absurd c_36 (by omega)) (fun c_36 => ?_)
  refine lv_aload_n hx hb dX0_askedBegun_74 rfl (lv_at hl 0 rfl) ?_
  refine lv_iconst (v := nI 2) hx hb dX0_askedBegun_75 (by decide) ?_
  refine k_calll (wr := []) (w2 := fun (u_37 : Unit) => [cR q1 qt1 0 sq1, cT qt1 dB f1, cS sq1 sb1 ((0 + 5) + 3), cB sb1 dB 80 sg1]) (va_runV (As := [.int (nI 2)]) (rest := []) ⟨hx, hb, hml, hown, hts⟩ (m_rd l D dB _ q1 qt1 sq1 sb1 0 f1 (0 + 5) 80 sg1 (nI 2) 3 (by decide) (by omega) (by omega)) (cwV 1 hts (lw_V q67 q68 q69 q4 q70) rfl rfl rfl (by decide +kernel) ⟨Nat.le_of_ble_eq_true rfl, Nat.le_of_ble_eq_true rfl⟩) (k_preV (k_Psub (ws' := [cR q1 qt1 0 sq1, cT qt1 dB f1, cS sq1 sb1 (0 + 5), cB sb1 dB 80 sg1]) hP [0, 1, 2, 3] rfl) hK (va_D.sub (ws' := [cR q1 qt1 0 sq1, cT qt1 dB f1, cS sq1 sb1 (0 + 5), cB sb1 dB 80 sg1]) hD [0, 1, 2, 3] (by decide) rfl) 0 0 rfl rfl _) rfl rfl hl.1 rfl (lv_room (Nat.le_of_ble_eq_true rfl)) dX0_askedBegun_76 ⟨Nat.le_of_ble_eq_true rfl, Nat.le_of_ble_eq_true rfl⟩) hP hD hS hA [0, 1, 2, 3] [] [0, 1, 2, 3] rfl rfl (by decide) (by decide) (fun _ => rfl) (by decide) (fun r_38 u_37 H locs hw_39 hP hD hS => ?_)
  have hP : va_P D vwCl [cR q1 qt1 0 sq1, cT qt1 dB f1, cS sq1 sb1 ((0 + 5) + 3), cB sb1 dB 80 sg1] H := hP
  have hD : va_D A [cR q1 qt1 0 sq1, cT qt1 dB f1, cS sq1 sb1 ((0 + 5) + 3), cB sb1 dB 80 sg1] := hD
  have hw_39 : r_38 = ((nI (zb_num (fun i => zb_byt (sg1 i)) (0 + 5) 3)).toInt64) := hw_39
  subst hw_39
  refine lv_aload_n hx hb dX0_askedBegun_79 rfl (lv_at hl 1 rfl) ?_
  refine lv_iconst (v := nI 0) hx hb dX0_askedBegun_80 (by decide) ?_
  refine k_callx (va_runS (As := [.ref b, .int (nI 0)]) (rest := [.long ((nI (zb_num (fun i => zb_byt (sg1 i)) (0 + 5) 3)).toInt64)]) ⟨hx, hb, hml, hown, hts⟩ (m_acell l D dB _ b L xs (0) hL (by omega)) (va_cwS 2 hts (lw_S q177 q178 q3 q179) rfl rfl rfl (by decide +kernel) ⟨Nat.le_of_ble_eq_true rfl, Nat.le_of_ble_eq_true rfl⟩) (k_preX hK hX hbl hbA hS _) rfl rfl hl.1 rfl (lv_room (Nat.le_of_ble_eq_true rfl)) dX0_askedBegun_81 ⟨Nat.le_of_ble_eq_true rfl, Nat.le_of_ble_eq_true rfl⟩) hP hS hA (fun r_41 u_40 H locs hw_42 hP hS => ?_)
  have hP : va_P D vwCl [cR q1 qt1 0 sq1, cT qt1 dB f1, cS sq1 sb1 ((0 + 5) + 3), cB sb1 dB 80 sg1] H := hP
  have hw_42 : r_41 = (zb_cel L xs 0) := hw_42
  subst hw_42
  refine lv_bipush (v := nI 24) hx hb dX0_askedBegun_84 (by decide) ?_
  refine lv_iushr hx hb dX0_askedBegun_86 rfl ?_
  refine lv_bipush (v := nI 7) hx hb dX0_askedBegun_87 (by decide) ?_
  refine lv_iand hx hb dX0_askedBegun_89 ?_
  refine k_is (y := (nI ((zb_cel L xs 0).toBitVec.toNat / 2 ^ 24 % 8))) (zb_ush7 _ (by omega)) ?_
  refine lv_i2l hx hb dX0_askedBegun_90 rfl ?_
  refine W.lcmp hx hb dX0_askedBegun_91 ?_
  refine k_is (y := (nI 0)) (k_cmp0 (congrArg (fun z => (nI z).toInt64) (zb_three hgs))) ?_
  refine k_eq0 (tgt := 97) hx hb dX0_askedBegun_92 (by decide) (by omega) (fun c_43 => ?_) (fun c_43 => absurd c_43 (by omega))
  refine lv_aload_n hx hb dX0_askedBegun_97 rfl (lv_at hl 0 rfl) ?_
  refine k_callv (wr := []) (w2 := fun (u_44 : Nat × Nat × (Nat → Int32)) => [cR q1 qt1 0 u_44.1, cT qt1 dB f1, cS u_44.1 u_44.2.1 0, cB u_44.2.1 dB 0 u_44.2.2]) (va_runV (As := []) (rest := []) ⟨hx, hb, hml, hown, hts⟩ (m_begin l D dB _ q1 qt1 sq1 sb1 0 f1 ((0 + 5) + 3) 80 sg1 (by omega)) (cwV 0 hts (lw_V q63 q64 q65 q4 q66) rfl rfl rfl (by decide +kernel) ⟨Nat.le_of_ble_eq_true rfl, Nat.le_of_ble_eq_true rfl⟩) (k_preV (k_Psub (ws' := [cR q1 qt1 0 sq1, cT qt1 dB f1, cS sq1 sb1 ((0 + 5) + 3), cB sb1 dB 80 sg1]) hP [0, 1, 2, 3] rfl) hK (va_D.sub (ws' := [cR q1 qt1 0 sq1, cT qt1 dB f1, cS sq1 sb1 ((0 + 5) + 3), cB sb1 dB 80 sg1]) hD [0, 1, 2, 3] (by decide) rfl) 0 0 rfl rfl _) rfl rfl hl.1 rfl (lv_room (Nat.le_of_ble_eq_true rfl)) dX0_askedBegun_98 ⟨Nat.le_of_ble_eq_true rfl, Nat.le_of_ble_eq_true rfl⟩) hP hD hS hA [0, 1, 2, 3] [] [0, 1, 2, 3] rfl rfl (by decide) (by decide) (fun _ => rfl) (by decide) (fun u_44 H locs hw_46 hP hD hS => ?_)
  obtain ⟨sq2, sb2, sg2⟩ := u_44
  have hP : va_P D vwCl [cR q1 qt1 0 sq2, cT qt1 dB f1, cS sq2 sb2 0, cB sb2 dB 0 sg2] H := hP
  have hD : va_D A [cR q1 qt1 0 sq2, cT qt1 dB f1, cS sq2 sb2 0, cB sb2 dB 0 sg2] := hD
  have hw_46 : ∀ j, j < 0 → zb_byt (sg2 j) = zb_byt (f1 j) := hw_46
  have hg2 := hw_46
  refine lv_aload_n hx hb dX0_askedBegun_101 rfl (lv_at hl 0 rfl) ?_
  refine k_calli (wr := []) (w2 := fun (u_47 : Unit) => [cR q1 qt1 0 sq2, cT qt1 dB f1, cS sq2 sb2 0, cB sb2 dB 0 sg2]) (va_runV (As := []) (rest := []) ⟨hx, hb, hml, hown, hts⟩ (m_left l D dB _ q1 qt1 sq2 sb2 0 f1 0 0 sg2 (by omega) (by omega)) (cwV 0 hts (lw_V q149 q150 q151 q4 q152) rfl rfl rfl (by decide +kernel) ⟨Nat.le_of_ble_eq_true rfl, Nat.le_of_ble_eq_true rfl⟩) (k_preV (k_Psub (ws' := [cR q1 qt1 0 sq2, cT qt1 dB f1, cS sq2 sb2 0, cB sb2 dB 0 sg2]) hP [0, 1, 2, 3] rfl) hK (va_D.sub (ws' := [cR q1 qt1 0 sq2, cT qt1 dB f1, cS sq2 sb2 0, cB sb2 dB 0 sg2]) hD [0, 1, 2, 3] (by decide) rfl) 0 0 rfl rfl _) rfl rfl hl.1 rfl (lv_room (Nat.le_of_ble_eq_true rfl)) dX0_askedBegun_102 ⟨Nat.le_of_ble_eq_true rfl, Nat.le_of_ble_eq_true rfl⟩) hP hD hS hA [0, 1, 2, 3] [] [0, 1, 2, 3] rfl rfl (by decide) (by decide) (fun _ => rfl) (by decide) (fun r_48 u_47 H locs hw_49 hP hD hS => ?_)
  have hP : va_P D vwCl [cR q1 qt1 0 sq2, cT qt1 dB f1, cS sq2 sb2 0, cB sb2 dB 0 sg2] H := hP
  have hD : va_D A [cR q1 qt1 0 sq2, cT qt1 dB f1, cS sq2 sb2 0, cB sb2 dB 0 sg2] := hD
  have hw_49 : r_48 = (nI (8 * 0 - 0)) := hw_49
  subst hw_49
  refine k_ne0 (tgt := 122) hx hb dX0_askedBegun_105 (by decide) (by omega) (fun c_50 => absurd c_50 (by omega)) (fun c_50 => ?_)
  refine lv_aload_n hx hb dX0_askedBegun_108 rfl (lv_at hl 0 rfl) ?_
  refine k_calli (wr := []) (w2 := fun (u_51 : Unit) => [cR q1 qt1 0 sq2, cT qt1 dB f1, cS sq2 sb2 0, cB sb2 dB 0 sg2]) (va_runV (As := []) (rest := []) ⟨hx, hb, hml, hown, hts⟩ (m_octet l D dB _ q1 qt1 sq2 sb2 0 f1 0 0 sg2) (cwV 0 hts (lw_V q155 q156 q157 q4 q158) rfl rfl rfl (by decide +kernel) ⟨Nat.le_of_ble_eq_true rfl, Nat.le_of_ble_eq_true rfl⟩) (k_preV (k_Psub (ws' := [cR q1 qt1 0 sq2, cT qt1 dB f1, cS sq2 sb2 0, cB sb2 dB 0 sg2]) hP [0, 1, 2, 3] rfl) hK (va_D.sub (ws' := [cR q1 qt1 0 sq2, cT qt1 dB f1, cS sq2 sb2 0, cB sb2 dB 0 sg2]) hD [0, 1, 2, 3] (by decide) rfl) 0 0 rfl rfl _) rfl rfl hl.1 rfl (lv_room (Nat.le_of_ble_eq_true rfl)) dX0_askedBegun_109 ⟨Nat.le_of_ble_eq_true rfl, Nat.le_of_ble_eq_true rfl⟩) hP hD hS hA [0, 1, 2, 3] [] [0, 1, 2, 3] rfl rfl (by decide) (by decide) (fun _ => rfl) (by decide) (fun r_52 u_51 H locs hw_53 hP hD hS => ?_)
  have hP : va_P D vwCl [cR q1 qt1 0 sq2, cT qt1 dB f1, cS sq2 sb2 0, cB sb2 dB 0 sg2] H := hP
  have hD : va_D A [cR q1 qt1 0 sq2, cT qt1 dB f1, cS sq2 sb2 0, cB sb2 dB 0 sg2] := hD
  have hw_53 : r_52 = (nI (0 / 8)) := hw_53
  subst hw_53
  refine k_ne0 (tgt := 122) hx hb dX0_askedBegun_112 (by decide) (by omega) (fun c_54 => absurd c_54 (by omega)) (fun c_54 => ?_)
  refine lv_aload_n hx hb dX0_askedBegun_115 rfl (lv_at hl 0 rfl) ?_
  refine k_calli (wr := []) (w2 := fun (u_55 : Unit) => [cR q1 qt1 0 sq2, cT qt1 dB f1, cS sq2 sb2 0, cB sb2 dB 0 sg2]) (va_runV (As := []) (rest := []) ⟨hx, hb, hml, hown, hts⟩ (m_bits l D dB _ q1 qt1 sq2 sb2 0 f1 0 0 sg2) (cwV 0 hts (lw_V q163 q164 q165 q4 q166) rfl rfl rfl (by decide +kernel) ⟨Nat.le_of_ble_eq_true rfl, Nat.le_of_ble_eq_true rfl⟩) (k_preV (k_Psub (ws' := [cR q1 qt1 0 sq2, cT qt1 dB f1, cS sq2 sb2 0, cB sb2 dB 0 sg2]) hP [0, 1, 2, 3] rfl) hK (va_D.sub (ws' := [cR q1 qt1 0 sq2, cT qt1 dB f1, cS sq2 sb2 0, cB sb2 dB 0 sg2]) hD [0, 1, 2, 3] (by decide) rfl) 0 0 rfl rfl _) rfl rfl hl.1 rfl (lv_room (Nat.le_of_ble_eq_true rfl)) dX0_askedBegun_116 ⟨Nat.le_of_ble_eq_true rfl, Nat.le_of_ble_eq_true rfl⟩) hP hD hS hA [0, 1, 2, 3] [] [0, 1, 2, 3] rfl rfl (by decide) (by decide) (fun _ => rfl) (by decide) (fun r_56 u_55 H locs hw_57 hP hD hS => ?_)
  have hP : va_P D vwCl [cR q1 qt1 0 sq2, cT qt1 dB f1, cS sq2 sb2 0, cB sb2 dB 0 sg2] H := hP
  have hD : va_D A [cR q1 qt1 0 sq2, cT qt1 dB f1, cS sq2 sb2 0, cB sb2 dB 0 sg2] := hD
  have hw_57 : r_56 = (nI (0 % 8)) := hw_57
  subst hw_57
  refine k_eq0 (tgt := 124) hx hb dX0_askedBegun_119 (by decide) (by omega) (fun c_58 => ?_) (fun c_58 => absurd c_58 (by omega))
  refine lv_aload_n hx hb dX0_askedBegun_124 rfl (lv_at hl 0 rfl) ?_
  refine lv_aload_n hx hb dX0_askedBegun_125 rfl (lv_at hl 1 rfl) ?_
  refine lv_iconst (v := nI 1) hx hb dX0_askedBegun_126 (by decide) ?_
  refine k_callx (va_runS (As := [.ref b, .int (nI 1)]) (rest := [.ref q1]) ⟨hx, hb, hml, hown, hts⟩ (m_acell l D dB _ b L xs (1) hL (by omega)) (va_cwS 2 hts (lw_S q177 q178 q3 q179) rfl rfl rfl (by decide +kernel) ⟨Nat.le_of_ble_eq_true rfl, Nat.le_of_ble_eq_true rfl⟩) (k_preX hK hX hbl hbA hS _) rfl rfl hl.1 rfl (lv_room (Nat.le_of_ble_eq_true rfl)) dX0_askedBegun_127 ⟨Nat.le_of_ble_eq_true rfl, Nat.le_of_ble_eq_true rfl⟩) hP hS hA (fun r_60 u_59 H locs hw_61 hP hS => ?_)
  have hP : va_P D vwCl [cR q1 qt1 0 sq2, cT qt1 dB f1, cS sq2 sb2 0, cB sb2 dB 0 sg2] H := hP
  have hw_61 : r_60 = (zb_cel L xs 1) := hw_61
  subst hw_61
  refine lv_iconst (v := nI 0) hx hb dX0_askedBegun_130 (by decide) ?_
  refine lv_iconst (v := nI 0) hx hb dX0_askedBegun_131 (by decide) ?_
  refine lv_iconst (v := nI 0) hx hb dX0_askedBegun_132 (by decide) ?_
  refine k_calli (wr := []) (w2 := fun (u_62 : (Nat → Int32)) => [cR q1 qt1 (0 + 16) sq2, cT qt1 dB u_62, cS sq2 sb2 0, cB sb2 dB 0 sg2]) (va_runV (As := [.int (zb_cel L xs 1), .int (nI 0), .int (nI 0), .int (nI 0)]) (rest := []) ⟨hx, hb, hml, hown, hts⟩ (m_put l D dB _ q1 qt1 sq2 sb2 0 f1 0 0 sg2 (zb_cel L xs 1) (nI 0) (nI 0) (nI 0) (by omega)) (cwV 4 hts (lw_V q55 q56 q57 q4 q58) rfl rfl rfl (by decide +kernel) ⟨Nat.le_of_ble_eq_true rfl, Nat.le_of_ble_eq_true rfl⟩) (k_preV (k_Psub (ws' := [cR q1 qt1 0 sq2, cT qt1 dB f1, cS sq2 sb2 0, cB sb2 dB 0 sg2]) hP [0, 1, 2, 3] rfl) hK (va_D.sub (ws' := [cR q1 qt1 0 sq2, cT qt1 dB f1, cS sq2 sb2 0, cB sb2 dB 0 sg2]) hD [0, 1, 2, 3] (by decide) rfl) 0 0 rfl rfl _) rfl rfl hl.1 rfl (lv_room (Nat.le_of_ble_eq_true rfl)) dX0_askedBegun_133 ⟨Nat.le_of_ble_eq_true rfl, Nat.le_of_ble_eq_true rfl⟩) hP hD hS hA [0, 1, 2, 3] [] [0, 1, 2, 3] rfl rfl (by decide) (by decide) (fun _ => rfl) (by decide) (fun r_63 u_62 H locs hw_64 hP hD hS => ?_)
  obtain ⟨pf3, rfl⟩ : ∃ z, z = u_62 := ⟨_, rfl⟩
  have hP : va_P D vwCl [cR q1 qt1 (0 + 16) sq2, cT qt1 dB pf3, cS sq2 sb2 0, cB sb2 dB 0 sg2] H := hP
  have hD : va_D A [cR q1 qt1 (0 + 16) sq2, cT qt1 dB pf3, cS sq2 sb2 0, cB sb2 dB 0 sg2] := hD
  have hw_64 : r_63 = nI 1 ∧ ∀ i, zb_byt (pf3 i) = if 0 ≤ i ∧ i < 0 + 16 then zb_in4 (zb_pick (zb_cel L xs 1) (nI 0) (nI 0) (nI 0) ((i - 0) / 4)) ((i - 0) % 4) else zb_byt (f1 i) := hw_64
  have qhw_64 := hw_64.2
  have ehw_64 := hw_64.1
  subst ehw_64
  have hp3 := qhw_64
  refine lv_pop hx hb dX0_askedBegun_136 rfl ?_
  refine lv_aload_n hx hb dX0_askedBegun_137 rfl (lv_at hl 0 rfl) ?_
  refine lv_iconst (v := nI 1) hx hb dX0_askedBegun_138 (by decide) ?_
  refine k_callv (wr := []) (w2 := fun (u_65 : Unit) => [cR q1 qt1 (((nI 1) : Int32).toBitVec.toNat % 2 ^ 31 % ((0 + 16) + 1)) sq2, cT qt1 dB pf3, cS sq2 sb2 0, cB sb2 dB 0 sg2]) (va_runV (As := [.int (nI 1)]) (rest := []) ⟨hx, hb, hml, hown, hts⟩ (m_trim l D dB _ q1 qt1 sq2 sb2 (0 + 16) pf3 0 0 sg2 (nI 1) (by omega)) (cwV 1 hts (lw_V q187 q188 q189 q4 q190) rfl rfl rfl (by decide +kernel) ⟨Nat.le_of_ble_eq_true rfl, Nat.le_of_ble_eq_true rfl⟩) (k_preV (k_Psub (ws' := [cR q1 qt1 (0 + 16) sq2, cT qt1 dB pf3, cS sq2 sb2 0, cB sb2 dB 0 sg2]) hP [0, 1, 2, 3] rfl) hK (va_D.sub (ws' := [cR q1 qt1 (0 + 16) sq2, cT qt1 dB pf3, cS sq2 sb2 0, cB sb2 dB 0 sg2]) hD [0, 1, 2, 3] (by decide) rfl) 0 0 rfl rfl _) rfl rfl hl.1 rfl (lv_room (Nat.le_of_ble_eq_true rfl)) dX0_askedBegun_139 ⟨Nat.le_of_ble_eq_true rfl, Nat.le_of_ble_eq_true rfl⟩) hP hD hS hA [0, 1, 2, 3] [] [0, 1, 2, 3] rfl rfl (by decide) (by decide) (fun _ => rfl) (by decide) (fun u_65 H locs hw_67 hP hD hS => ?_)
  have hP : va_P D vwCl [cR q1 qt1 (((nI 1) : Int32).toBitVec.toNat % 2 ^ 31 % ((0 + 16) + 1)) sq2, cT qt1 dB pf3, cS sq2 sb2 0, cB sb2 dB 0 sg2] H := hP
  have hD : va_D A [cR q1 qt1 (((nI 1) : Int32).toBitVec.toNat % 2 ^ 31 % ((0 + 16) + 1)) sq2, cT qt1 dB pf3, cS sq2 sb2 0, cB sb2 dB 0 sg2] := hD
  have ez_68 : ((nI 1) : Int32).toBitVec.toNat % 2 ^ 31 % ((0 + 16) + 1) = 1 := by decide +kernel
  rw [ez_68] at hP hD
  have hP : va_P D vwCl [cR q1 qt1 1 sq2, cT qt1 dB pf3, cS sq2 sb2 0, cB sb2 dB 0 sg2] H := hP
  have hD : va_D A [cR q1 qt1 1 sq2, cT qt1 dB pf3, cS sq2 sb2 0, cB sb2 dB 0 sg2] := hD
  refine lv_aload_n hx hb dX0_askedBegun_142 rfl (lv_at hl 0 rfl) ?_
  refine k_callv (wr := []) (w2 := fun (u_69 : Nat × Nat × (Nat → Int32)) => [cR q1 qt1 1 u_69.1, cT qt1 dB pf3, cS u_69.1 u_69.2.1 0, cB u_69.2.1 dB 1 u_69.2.2]) (va_runV (As := []) (rest := []) ⟨hx, hb, hml, hown, hts⟩ (m_begin l D dB _ q1 qt1 sq2 sb2 1 pf3 0 0 sg2 (by omega)) (cwV 0 hts (lw_V q63 q64 q65 q4 q66) rfl rfl rfl (by decide +kernel) ⟨Nat.le_of_ble_eq_true rfl, Nat.le_of_ble_eq_true rfl⟩) (k_preV (k_Psub (ws' := [cR q1 qt1 1 sq2, cT qt1 dB pf3, cS sq2 sb2 0, cB sb2 dB 0 sg2]) hP [0, 1, 2, 3] rfl) hK (va_D.sub (ws' := [cR q1 qt1 1 sq2, cT qt1 dB pf3, cS sq2 sb2 0, cB sb2 dB 0 sg2]) hD [0, 1, 2, 3] (by decide) rfl) 0 0 rfl rfl _) rfl rfl hl.1 rfl (lv_room (Nat.le_of_ble_eq_true rfl)) dX0_askedBegun_143 ⟨Nat.le_of_ble_eq_true rfl, Nat.le_of_ble_eq_true rfl⟩) hP hD hS hA [0, 1, 2, 3] [] [0, 1, 2, 3] rfl rfl (by decide) (by decide) (fun _ => rfl) (by decide) (fun u_69 H locs hw_71 hP hD hS => ?_)
  obtain ⟨sq4, sb4, sg4⟩ := u_69
  have hP : va_P D vwCl [cR q1 qt1 1 sq4, cT qt1 dB pf3, cS sq4 sb4 0, cB sb4 dB 1 sg4] H := hP
  have hD : va_D A [cR q1 qt1 1 sq4, cT qt1 dB pf3, cS sq4 sb4 0, cB sb4 dB 1 sg4] := hD
  have hw_71 : ∀ j, j < 1 → zb_byt (sg4 j) = zb_byt (pf3 j) := hw_71
  have hg4 := hw_71
  refine lv_aload_n hx hb dX0_askedBegun_146 rfl (lv_at hl 0 rfl) ?_
  refine k_calli (wr := []) (w2 := fun (u_72 : Unit) => [cR q1 qt1 1 sq4, cT qt1 dB pf3, cS sq4 sb4 0, cB sb4 dB 1 sg4]) (va_runV (As := []) (rest := []) ⟨hx, hb, hml, hown, hts⟩ (m_left l D dB _ q1 qt1 sq4 sb4 1 pf3 0 1 sg4 (by omega) (by omega)) (cwV 0 hts (lw_V q149 q150 q151 q4 q152) rfl rfl rfl (by decide +kernel) ⟨Nat.le_of_ble_eq_true rfl, Nat.le_of_ble_eq_true rfl⟩) (k_preV (k_Psub (ws' := [cR q1 qt1 1 sq4, cT qt1 dB pf3, cS sq4 sb4 0, cB sb4 dB 1 sg4]) hP [0, 1, 2, 3] rfl) hK (va_D.sub (ws' := [cR q1 qt1 1 sq4, cT qt1 dB pf3, cS sq4 sb4 0, cB sb4 dB 1 sg4]) hD [0, 1, 2, 3] (by decide) rfl) 0 0 rfl rfl _) rfl rfl hl.1 rfl (lv_room (Nat.le_of_ble_eq_true rfl)) dX0_askedBegun_147 ⟨Nat.le_of_ble_eq_true rfl, Nat.le_of_ble_eq_true rfl⟩) hP hD hS hA [0, 1, 2, 3] [] [0, 1, 2, 3] rfl rfl (by decide) (by decide) (fun _ => rfl) (by decide) (fun r_73 u_72 H locs hw_74 hP hD hS => ?_)
  have hP : va_P D vwCl [cR q1 qt1 1 sq4, cT qt1 dB pf3, cS sq4 sb4 0, cB sb4 dB 1 sg4] H := hP
  have hD : va_D A [cR q1 qt1 1 sq4, cT qt1 dB pf3, cS sq4 sb4 0, cB sb4 dB 1 sg4] := hD
  have hw_74 : r_73 = (nI (8 * 1 - 0)) := hw_74
  subst hw_74
  refine lv_bipush (v := nI 8) hx hb dX0_askedBegun_150 (by decide) ?_
  refine k_ne (tgt := 206) hx hb dX0_askedBegun_152 (by decide) (by omega) (by omega) (fun c_75 => absurd c_75 (by omega)) (fun c_75 => ?_)
  refine lv_aload_n hx hb dX0_askedBegun_155 rfl (lv_at hl 0 rfl) ?_
  refine lv_bipush (v := nI 8) hx hb dX0_askedBegun_156 (by decide) ?_
  refine k_calll (wr := []) (w2 := fun (u_76 : Unit) => [cR q1 qt1 1 sq4, cT qt1 dB pf3, cS sq4 sb4 0, cB sb4 dB 1 sg4]) (va_runV (As := [.int (nI 8)]) (rest := []) ⟨hx, hb, hml, hown, hts⟩ (m_rdNo l D dB _ q1 qt1 sq4 sb4 1 pf3 0 1 sg4 (nI 8) 9 (by decide) (by omega) (by omega) (by omega)) (cwV 1 hts (lw_V q67 q68 q69 q4 q70) rfl rfl rfl (by decide +kernel) ⟨Nat.le_of_ble_eq_true rfl, Nat.le_of_ble_eq_true rfl⟩) (k_preV (k_Psub (ws' := [cR q1 qt1 1 sq4, cT qt1 dB pf3, cS sq4 sb4 0, cB sb4 dB 1 sg4]) hP [0, 1, 2, 3] rfl) hK (va_D.sub (ws' := [cR q1 qt1 1 sq4, cT qt1 dB pf3, cS sq4 sb4 0, cB sb4 dB 1 sg4]) hD [0, 1, 2, 3] (by decide) rfl) 0 0 rfl rfl _) rfl rfl hl.1 rfl (lv_room (Nat.le_of_ble_eq_true rfl)) dX0_askedBegun_158 ⟨Nat.le_of_ble_eq_true rfl, Nat.le_of_ble_eq_true rfl⟩) hP hD hS hA [0, 1, 2, 3] [] [0, 1, 2, 3] rfl rfl (by decide) (by decide) (fun _ => rfl) (by decide) (fun r_77 u_76 H locs hw_78 hP hD hS => ?_)
  have hP : va_P D vwCl [cR q1 qt1 1 sq4, cT qt1 dB pf3, cS sq4 sb4 0, cB sb4 dB 1 sg4] H := hP
  have hD : va_D A [cR q1 qt1 1 sq4, cT qt1 dB pf3, cS sq4 sb4 0, cB sb4 dB 1 sg4] := hD
  have hw_78 : r_77 = 4294967296 := hw_78
  subst hw_78
  refine lv_ldc2 (v := 4294967296) hx hb hown (hts _ q153) dX0_askedBegun_161 ?_
  refine W.lcmp hx hb dX0_askedBegun_164 ?_
  refine k_is (y := (nI 0)) (k_cmp0 (rfl)) ?_
  refine k_ne0 (tgt := 206) hx hb dX0_askedBegun_165 (by decide) (by omega) (fun c_79 => absurd c_79 (by omega)) (fun c_79 => ?_)
  refine lv_aload_n hx hb dX0_askedBegun_168 rfl (lv_at hl 0 rfl) ?_
  refine lv_bipush (v := nI 7) hx hb dX0_askedBegun_169 (by decide) ?_
  refine k_calll (wr := []) (w2 := fun (u_80 : Unit) => [cR q1 qt1 1 sq4, cT qt1 dB pf3, cS sq4 sb4 (0 + 8), cB sb4 dB 1 sg4]) (va_runV (As := [.int (nI 7)]) (rest := []) ⟨hx, hb, hml, hown, hts⟩ (m_rd l D dB _ q1 qt1 sq4 sb4 1 pf3 0 1 sg4 (nI 7) 8 (by decide) (by omega) (by omega)) (cwV 1 hts (lw_V q67 q68 q69 q4 q70) rfl rfl rfl (by decide +kernel) ⟨Nat.le_of_ble_eq_true rfl, Nat.le_of_ble_eq_true rfl⟩) (k_preV (k_Psub (ws' := [cR q1 qt1 1 sq4, cT qt1 dB pf3, cS sq4 sb4 0, cB sb4 dB 1 sg4]) hP [0, 1, 2, 3] rfl) hK (va_D.sub (ws' := [cR q1 qt1 1 sq4, cT qt1 dB pf3, cS sq4 sb4 0, cB sb4 dB 1 sg4]) hD [0, 1, 2, 3] (by decide) rfl) 0 0 rfl rfl _) rfl rfl hl.1 rfl (lv_room (Nat.le_of_ble_eq_true rfl)) dX0_askedBegun_171 ⟨Nat.le_of_ble_eq_true rfl, Nat.le_of_ble_eq_true rfl⟩) hP hD hS hA [0, 1, 2, 3] [] [0, 1, 2, 3] rfl rfl (by decide) (by decide) (fun _ => rfl) (by decide) (fun r_81 u_80 H locs hw_82 hP hD hS => ?_)
  have hP : va_P D vwCl [cR q1 qt1 1 sq4, cT qt1 dB pf3, cS sq4 sb4 (0 + 8), cB sb4 dB 1 sg4] H := hP
  have hD : va_D A [cR q1 qt1 1 sq4, cT qt1 dB pf3, cS sq4 sb4 (0 + 8), cB sb4 dB 1 sg4] := hD
  have hw_82 : r_81 = ((nI (zb_num (fun i => zb_byt (sg4 i)) 0 8)).toInt64) := hw_82
  subst hw_82
  refine lv_aload_n hx hb dX0_askedBegun_174 rfl (lv_at hl 1 rfl) ?_
  refine lv_iconst (v := nI 1) hx hb dX0_askedBegun_175 (by decide) ?_
  refine k_callx (va_runS (As := [.ref b, .int (nI 1)]) (rest := [.long ((nI (zb_num (fun i => zb_byt (sg4 i)) 0 8)).toInt64)]) ⟨hx, hb, hml, hown, hts⟩ (m_acell l D dB _ b L xs (1) hL (by omega)) (va_cwS 2 hts (lw_S q177 q178 q3 q179) rfl rfl rfl (by decide +kernel) ⟨Nat.le_of_ble_eq_true rfl, Nat.le_of_ble_eq_true rfl⟩) (k_preX hK hX hbl hbA hS _) rfl rfl hl.1 rfl (lv_room (Nat.le_of_ble_eq_true rfl)) dX0_askedBegun_176 ⟨Nat.le_of_ble_eq_true rfl, Nat.le_of_ble_eq_true rfl⟩) hP hS hA (fun r_84 u_83 H locs hw_85 hP hS => ?_)
  have hP : va_P D vwCl [cR q1 qt1 1 sq4, cT qt1 dB pf3, cS sq4 sb4 (0 + 8), cB sb4 dB 1 sg4] H := hP
  have hw_85 : r_84 = (zb_cel L xs 1) := hw_85
  subst hw_85
  refine lv_bipush (v := nI 24) hx hb dX0_askedBegun_179 (by decide) ?_
  refine lv_iushr hx hb dX0_askedBegun_181 rfl ?_
  refine k_is (y := (nI ((zb_cel L xs 1).toBitVec.toNat / 2 ^ 24))) (zb_ush _ (by omega)) ?_
  refine lv_i2l hx hb dX0_askedBegun_182 rfl ?_
  refine W.lcmp hx hb dX0_askedBegun_183 ?_
  refine k_is (y := (nI 0)) (k_cmp0 (congrArg (fun z => (nI z).toInt64) (zb_first hg4 hp3))) ?_
  refine k_ne0 (tgt := 206) hx hb dX0_askedBegun_184 (by decide) (by omega) (fun c_86 => absurd c_86 (by omega)) (fun c_86 => ?_)
  refine lv_aload_n hx hb dX0_askedBegun_187 rfl (lv_at hl 0 rfl) ?_
  refine k_calli (wr := []) (w2 := fun (u_87 : Unit) => [cR q1 qt1 1 sq4, cT qt1 dB pf3, cS sq4 sb4 (0 + 8), cB sb4 dB 1 sg4]) (va_runV (As := []) (rest := []) ⟨hx, hb, hml, hown, hts⟩ (m_left l D dB _ q1 qt1 sq4 sb4 1 pf3 (0 + 8) 1 sg4 (by omega) (by omega)) (cwV 0 hts (lw_V q149 q150 q151 q4 q152) rfl rfl rfl (by decide +kernel) ⟨Nat.le_of_ble_eq_true rfl, Nat.le_of_ble_eq_true rfl⟩) (k_preV (k_Psub (ws' := [cR q1 qt1 1 sq4, cT qt1 dB pf3, cS sq4 sb4 (0 + 8), cB sb4 dB 1 sg4]) hP [0, 1, 2, 3] rfl) hK (va_D.sub (ws' := [cR q1 qt1 1 sq4, cT qt1 dB pf3, cS sq4 sb4 (0 + 8), cB sb4 dB 1 sg4]) hD [0, 1, 2, 3] (by decide) rfl) 0 0 rfl rfl _) rfl rfl hl.1 rfl (lv_room (Nat.le_of_ble_eq_true rfl)) dX0_askedBegun_188 ⟨Nat.le_of_ble_eq_true rfl, Nat.le_of_ble_eq_true rfl⟩) hP hD hS hA [0, 1, 2, 3] [] [0, 1, 2, 3] rfl rfl (by decide) (by decide) (fun _ => rfl) (by decide) (fun r_88 u_87 H locs hw_89 hP hD hS => ?_)
  have hP : va_P D vwCl [cR q1 qt1 1 sq4, cT qt1 dB pf3, cS sq4 sb4 (0 + 8), cB sb4 dB 1 sg4] H := hP
  have hD : va_D A [cR q1 qt1 1 sq4, cT qt1 dB pf3, cS sq4 sb4 (0 + 8), cB sb4 dB 1 sg4] := hD
  have hw_89 : r_88 = (nI (8 * 1 - (0 + 8))) := hw_89
  subst hw_89
  refine k_ne0 (tgt := 206) hx hb dX0_askedBegun_191 (by decide) (by omega) (fun c_90 => absurd c_90 (by omega)) (fun c_90 => ?_)
  refine lv_aload_n hx hb dX0_askedBegun_194 rfl (lv_at hl 0 rfl) ?_
  refine k_calli (wr := []) (w2 := fun (u_91 : Unit) => [cR q1 qt1 1 sq4, cT qt1 dB pf3, cS sq4 sb4 (0 + 8), cB sb4 dB 1 sg4]) (va_runV (As := []) (rest := []) ⟨hx, hb, hml, hown, hts⟩ (m_octet l D dB _ q1 qt1 sq4 sb4 1 pf3 (0 + 8) 1 sg4) (cwV 0 hts (lw_V q155 q156 q157 q4 q158) rfl rfl rfl (by decide +kernel) ⟨Nat.le_of_ble_eq_true rfl, Nat.le_of_ble_eq_true rfl⟩) (k_preV (k_Psub (ws' := [cR q1 qt1 1 sq4, cT qt1 dB pf3, cS sq4 sb4 (0 + 8), cB sb4 dB 1 sg4]) hP [0, 1, 2, 3] rfl) hK (va_D.sub (ws' := [cR q1 qt1 1 sq4, cT qt1 dB pf3, cS sq4 sb4 (0 + 8), cB sb4 dB 1 sg4]) hD [0, 1, 2, 3] (by decide) rfl) 0 0 rfl rfl _) rfl rfl hl.1 rfl (lv_room (Nat.le_of_ble_eq_true rfl)) dX0_askedBegun_195 ⟨Nat.le_of_ble_eq_true rfl, Nat.le_of_ble_eq_true rfl⟩) hP hD hS hA [0, 1, 2, 3] [] [0, 1, 2, 3] rfl rfl (by decide) (by decide) (fun _ => rfl) (by decide) (fun r_92 u_91 H locs hw_93 hP hD hS => ?_)
  have hP : va_P D vwCl [cR q1 qt1 1 sq4, cT qt1 dB pf3, cS sq4 sb4 (0 + 8), cB sb4 dB 1 sg4] H := hP
  have hD : va_D A [cR q1 qt1 1 sq4, cT qt1 dB pf3, cS sq4 sb4 (0 + 8), cB sb4 dB 1 sg4] := hD
  have hw_93 : r_92 = (nI ((0 + 8) / 8)) := hw_93
  subst hw_93
  refine lv_iconst (v := nI 1) hx hb dX0_askedBegun_198 (by decide) ?_
  refine k_ne (tgt := 206) hx hb dX0_askedBegun_199 (by decide) (by omega) (by omega) (fun c_94 => absurd c_94 (by omega)) (fun c_94 => ?_)
  refine lv_iconst (v := nI 1) hx hb dX0_askedBegun_202 (by decide) ?_
  refine lv_goto (tgt := 207) hx hb dX0_askedBegun_203 (by decide) ?_
  refine W.widen (k := 10) (n := 16399) (Nat.le_of_ble_eq_true rfl) (Nat.le_of_ble_eq_true rfl) ?_
  exact W.zret (v := (nI 1)) hx hb hr rfl (fun t ht hW => ⟨⟨(nI 1), (), rfl, rfl, trivial⟩, hS.F ht⟩) hS.2.2 dX0_askedBegun_207

set_option maxHeartbeats 4000000 in
set_option maxRecDepth 100000 in
/-- askedMost() answers true -/
theorem m_most (l : Launch) (D : va_G) (dB : ClassId) (sz : Nat)  : Met l yX0_askedMost (ws_ yX0_askedMost cX0_askedMost 2 (some .boolean)) ({ frames := 4, cells := 4, slots := 4102, locals := 110 }) (k_P0 D [(dB, .byte)] sz) (va_Qi (fun (r : Int32) (_ : Unit) => r = nI 1) (fun (_ : Unit) (_ : State) => True) (va_A [] sz)) 4 4102 (va_A [] sz) := by
  refine Met.ofW (cc := cX0_askedMost) (maxL := 2) (ret := (some .boolean)) (by decide) rfl ?_
  intro pg e s m args below meth c s₁ B hml hv
  obtain ⟨rfl, hsz, hK⟩ := hv
  have hx := B.exec
  have hb := B.bytes
  have hr := B.returns
  have hts := atoms_spec (ws := (ws_ yX0_askedMost cX0_askedMost 2 (some .boolean))) B.pre
  have hts : ∀ w ∈ lw_all, w.before _ s = true := fun w h => hts w (List.mem_cons_of_mem _ h)
  have hown : s.vm.findClass RX0 = some m.cls := findClass_of_methodNamed B.named
  have hlocks := B.notSynchronized
  subst hsz
  have hP : va_P D vwCl [] s.heap := fun k q h => by simp at h
  have hD : va_D (va_A [] s.heap.size) [] := ⟨fun i j p q h => by simp at h, fun k q h => by simp at h⟩
  generalize hAe : va_A [] s.heap.size = A at hD ⊢
  have hA : ∀ q : Nat, s.heap.size ≤ q → A q := fun q h => by rw [← hAe]; exact Or.inr h
  have hS : va_S A s.heap s.heap [] := va_S.rf
  have hl := lv_entry ([]) (n := 2) (Nat.le_of_ble_eq_true rfl)
  rw [lg_entry_eq]
  generalize (lg_sl ([]) ++ List.replicate (2 - (lg_sl ([])).length) Slot.unset).toArray = ls at hl ⊢
  have hl : lv_has ls 2 [] := hl
  refine va_new (ci := 0) (fs := [.null, .int (nI 0), .null]) (C := RX1) (T := TX1) (N := 3) hx hb hts in_X1 tyX1 tyX1_ok hown (hts _ q17) (hts _ q18) (hts _ q4) hK hP hD hS hA rfl (fun j hj => by rcases (show j = 0 ∨ j = 1 ∨ j = 2 by omega) with rfl | rfl | rfl <;> rfl) (Nat.le_of_ble_eq_true rfl) (Nat.le_of_ble_eq_true rfl) dX0_askedMost_0 (fun qr_95 H hP hD hS => ?_)
  have hP : va_P D vwCl [(qr_95, .inr (0, [.null, .int (nI 0), .null]))] H := hP
  have hD : va_D A [(qr_95, .inr (0, [.null, .int (nI 0), .null]))] := hD
  refine lv_dup hx hb dX0_askedMost_3 rfl ?_
  refine k_callv (wr := []) (w2 := fun (u_96 : Nat × Nat × Nat) => [cR qr_95 u_96.1 0 u_96.2.1, cT u_96.1 dB (fun _ => 0), cS u_96.2.1 u_96.2.2 0, cB u_96.2.2 dB 0 (fun _ => 0)]) (va_runI (As := []) (rest := [.ref qr_95]) ⟨hx, hb, hml, hown, hts⟩ (m_rinit l D dB _ qr_95) (cwI 0 hts (lw_meth q21) rfl rfl rfl (hts _ q4) (hts _ q19) (hts _ q20) rfl (by decide +kernel) ⟨Nat.le_of_ble_eq_true rfl, Nat.le_of_ble_eq_true rfl⟩) (k_preS (k_Psub (ws' := [(qr_95, .inr (0, [.null, .int (nI 0), .null]))]) hP [0] rfl) hK (va_D.sub (ws' := [(qr_95, .inr (0, [.null, .int (nI 0), .null]))]) hD [0] (by decide) rfl) _) rfl rfl hl.1 rfl (lv_room (Nat.le_of_ble_eq_true rfl)) dX0_askedMost_4 ⟨Nat.le_of_ble_eq_true rfl, Nat.le_of_ble_eq_true rfl⟩) hP hD hS hA [0] [] [0, 1, 2, 3] rfl rfl (by decide) (by decide) (fun _ => rfl) (by decide) (fun u_96 H locs hw_98 hP hD hS => ?_)
  obtain ⟨qt, qs, qb⟩ := u_96
  have hP : va_P D vwCl [cR qr_95 qt 0 qs, cT qt dB (fun _ => 0), cS qs qb 0, cB qb dB 0 (fun _ => 0)] H := hP
  have hD : va_D A [cR qr_95 qt 0 qs, cT qt dB (fun _ => 0), cS qs qb 0, cB qb dB 0 (fun _ => 0)] := hD
  have hloop : ∀ (d k : Nat) (f : Nat → Int32), 256 - k ≤ d → k ≤ 256 → ∀ (H : Heap) (locs : List Loc) (ls : Array Slot), va_P D vwCl [cR qr_95 qt (16 * k) qs, cT qt dB f, cS qs qb 0, cB qb dB 0 (fun _ => 0)] H → va_D A [cR qr_95 qt (16 * k) qs, cT qt dB f, cS qs qb 0, cB qb dB 0 (fun _ => 0)] → va_S A s.heap H locs → lv_has ls 2 [(1, .int (nI k)), (0, .ref qr_95)] → W pg l e (headSpec (ws_ yX0_askedMost cX0_askedMost 2 (some .boolean)) ({ frames := 4, cells := 4, slots := 4102, locals := 110 })).room s m ([] : List Value).toArray below meth c H locs 4 4102 (MQ below (va_Qi (fun (r : Int32) (_ : Unit) => r = nI 1) (fun (_ : Unit) (_ : State) => True) A) ([] : List Value).toArray s 4 4102 A) (F0 m 10 ls []) := by
    intro d
    induction d with
    | zero =>
      intro k f hd hk H locs ls hP hD hS hl
      refine lv_iload_n hx hb dX0_askedMost_10 rfl (lv_at hl 0 rfl) ?_
      refine lv_sipush (v := nI 256) hx hb dX0_askedMost_11 (by decide) ?_
      refine k_ge (tgt := 36) hx hb dX0_askedMost_14 (by decide) (by omega) (by omega) (fun c_99 => ?_) (fun c_99 => absurd c_99 (by omega))
      have ei : 16 * k = 4096 := by omega
      rw [ei] at hP hD
      have hP : va_P D vwCl [cR qr_95 qt 4096 qs, cT qt dB f, cS qs qb 0, cB qb dB 0 (fun _ => 0)] H := hP
      have hD : va_D A [cR qr_95 qt 4096 qs, cT qt dB f, cS qs qb 0, cB qb dB 0 (fun _ => 0)] := hD
      refine lv_aload_n hx hb dX0_askedMost_36 rfl (lv_at hl 1 rfl) ?_
      refine lv_iconst (v := nI 1) hx hb dX0_askedMost_37 (by decide) ?_
      refine lv_iconst (v := nI 1) hx hb dX0_askedMost_38 (by decide) ?_
      refine lv_iconst (v := nI 1) hx hb dX0_askedMost_39 (by decide) ?_
      refine lv_iconst (v := nI 1) hx hb dX0_askedMost_40 (by decide) ?_
      refine k_calli (wr := []) (w2 := fun (u_100 : Unit) => [cR qr_95 qt 4096 qs, cT qt dB f, cS qs qb 0, cB qb dB 0 (fun _ => 0)]) (va_runV (As := [.int (nI 1), .int (nI 1), .int (nI 1), .int (nI 1)]) (rest := []) ⟨hx, hb, hml, hown, hts⟩ (m_putNo l D dB _ qr_95 qt qs qb 4096 f 0 0 (fun _ => 0) (nI 1) (nI 1) (nI 1) (nI 1) (by omega) (by omega)) (cwV 4 hts (lw_V q55 q56 q57 q4 q58) rfl rfl rfl (by decide +kernel) ⟨Nat.le_of_ble_eq_true rfl, Nat.le_of_ble_eq_true rfl⟩) (k_preV (k_Psub (ws' := [cR qr_95 qt 4096 qs, cT qt dB f, cS qs qb 0, cB qb dB 0 (fun _ => 0)]) hP [0, 1, 2, 3] rfl) hK (va_D.sub (ws' := [cR qr_95 qt 4096 qs, cT qt dB f, cS qs qb 0, cB qb dB 0 (fun _ => 0)]) hD [0, 1, 2, 3] (by decide) rfl) 0 0 rfl rfl _) rfl rfl hl.1 rfl (lv_room (Nat.le_of_ble_eq_true rfl)) dX0_askedMost_41 ⟨Nat.le_of_ble_eq_true rfl, Nat.le_of_ble_eq_true rfl⟩) hP hD hS hA [0, 1, 2, 3] [] [0, 1, 2, 3] rfl rfl (by decide) (by decide) (fun _ => rfl) (by decide) (fun r_101 u_100 H locs hw_102 hP hD hS => ?_)
      have hP : va_P D vwCl [cR qr_95 qt 4096 qs, cT qt dB f, cS qs qb 0, cB qb dB 0 (fun _ => 0)] H := hP
      have hD : va_D A [cR qr_95 qt 4096 qs, cT qt dB f, cS qs qb 0, cB qb dB 0 (fun _ => 0)] := hD
      have hw_102 : r_101 = (nI 0) := hw_102
      subst hw_102
      refine k_ne0 (tgt := 57) hx hb dX0_askedMost_44 (by decide) (by omega) (fun c_103 => absurd c_103 (by omega)) (fun c_103 => ?_)
      refine lv_aload_n hx hb dX0_askedMost_47 rfl (lv_at hl 1 rfl) ?_
      refine k_calli (wr := []) (w2 := fun (u_104 : Unit) => [cR qr_95 qt 4096 qs, cT qt dB f, cS qs qb 0, cB qb dB 0 (fun _ => 0)]) (va_runV (As := []) (rest := []) ⟨hx, hb, hml, hown, hts⟩ (m_size l D dB _ qr_95 qt qs qb 4096 f 0 0 (fun _ => 0)) (cwV 0 hts (lw_V q183 q184 q185 q4 q186) rfl rfl rfl (by decide +kernel) ⟨Nat.le_of_ble_eq_true rfl, Nat.le_of_ble_eq_true rfl⟩) (k_preV (k_Psub (ws' := [cR qr_95 qt 4096 qs, cT qt dB f, cS qs qb 0, cB qb dB 0 (fun _ => 0)]) hP [0, 1, 2, 3] rfl) hK (va_D.sub (ws' := [cR qr_95 qt 4096 qs, cT qt dB f, cS qs qb 0, cB qb dB 0 (fun _ => 0)]) hD [0, 1, 2, 3] (by decide) rfl) 0 0 rfl rfl _) rfl rfl hl.1 rfl (lv_room (Nat.le_of_ble_eq_true rfl)) dX0_askedMost_48 ⟨Nat.le_of_ble_eq_true rfl, Nat.le_of_ble_eq_true rfl⟩) hP hD hS hA [0, 1, 2, 3] [] [0, 1, 2, 3] rfl rfl (by decide) (by decide) (fun _ => rfl) (by decide) (fun r_105 u_104 H locs hw_106 hP hD hS => ?_)
      have hP : va_P D vwCl [cR qr_95 qt 4096 qs, cT qt dB f, cS qs qb 0, cB qb dB 0 (fun _ => 0)] H := hP
      have hD : va_D A [cR qr_95 qt 4096 qs, cT qt dB f, cS qs qb 0, cB qb dB 0 (fun _ => 0)] := hD
      have hw_106 : r_105 = (nI 4096) := hw_106
      subst hw_106
      refine lv_sipush (v := nI 4096) hx hb dX0_askedMost_51 (by decide) ?_
      refine k_eq (tgt := 59) hx hb dX0_askedMost_54 (by decide) (by omega) (by omega) (fun c_107 => ?_) (fun c_107 => absurd c_107 (by omega))
      refine lv_aload_n hx hb dX0_askedMost_59 rfl (lv_at hl 1 rfl) ?_
      refine lv_sipush (v := nI 4096) hx hb dX0_askedMost_60 (by decide) ?_
      refine k_callv (wr := []) (w2 := fun (u_108 : Unit) => [cR qr_95 qt (((nI 4096) : Int32).toBitVec.toNat % 2 ^ 31 % (4096 + 1)) qs, cT qt dB f, cS qs qb 0, cB qb dB 0 (fun _ => 0)]) (va_runV (As := [.int (nI 4096)]) (rest := []) ⟨hx, hb, hml, hown, hts⟩ (m_trim l D dB _ qr_95 qt qs qb 4096 f 0 0 (fun _ => 0) (nI 4096) (by omega)) (cwV 1 hts (lw_V q187 q188 q189 q4 q190) rfl rfl rfl (by decide +kernel) ⟨Nat.le_of_ble_eq_true rfl, Nat.le_of_ble_eq_true rfl⟩) (k_preV (k_Psub (ws' := [cR qr_95 qt 4096 qs, cT qt dB f, cS qs qb 0, cB qb dB 0 (fun _ => 0)]) hP [0, 1, 2, 3] rfl) hK (va_D.sub (ws' := [cR qr_95 qt 4096 qs, cT qt dB f, cS qs qb 0, cB qb dB 0 (fun _ => 0)]) hD [0, 1, 2, 3] (by decide) rfl) 0 0 rfl rfl _) rfl rfl hl.1 rfl (lv_room (Nat.le_of_ble_eq_true rfl)) dX0_askedMost_63 ⟨Nat.le_of_ble_eq_true rfl, Nat.le_of_ble_eq_true rfl⟩) hP hD hS hA [0, 1, 2, 3] [] [0, 1, 2, 3] rfl rfl (by decide) (by decide) (fun _ => rfl) (by decide) (fun u_108 H locs hw_110 hP hD hS => ?_)
      have hP : va_P D vwCl [cR qr_95 qt (((nI 4096) : Int32).toBitVec.toNat % 2 ^ 31 % (4096 + 1)) qs, cT qt dB f, cS qs qb 0, cB qb dB 0 (fun _ => 0)] H := hP
      have hD : va_D A [cR qr_95 qt (((nI 4096) : Int32).toBitVec.toNat % 2 ^ 31 % (4096 + 1)) qs, cT qt dB f, cS qs qb 0, cB qb dB 0 (fun _ => 0)] := hD
      have ez_111 : ((nI 4096) : Int32).toBitVec.toNat % 2 ^ 31 % (4096 + 1) = 4096 := by decide +kernel
      rw [ez_111] at hP hD
      have hP : va_P D vwCl [cR qr_95 qt 4096 qs, cT qt dB f, cS qs qb 0, cB qb dB 0 (fun _ => 0)] H := hP
      have hD : va_D A [cR qr_95 qt 4096 qs, cT qt dB f, cS qs qb 0, cB qb dB 0 (fun _ => 0)] := hD
      refine lv_aload_n hx hb dX0_askedMost_66 rfl (lv_at hl 1 rfl) ?_
      refine k_calli (wr := []) (w2 := fun (u_112 : Unit) => [cR qr_95 qt 4096 qs, cT qt dB f, cS qs qb 0, cB qb dB 0 (fun _ => 0)]) (va_runV (As := []) (rest := []) ⟨hx, hb, hml, hown, hts⟩ (m_size l D dB _ qr_95 qt qs qb 4096 f 0 0 (fun _ => 0)) (cwV 0 hts (lw_V q183 q184 q185 q4 q186) rfl rfl rfl (by decide +kernel) ⟨Nat.le_of_ble_eq_true rfl, Nat.le_of_ble_eq_true rfl⟩) (k_preV (k_Psub (ws' := [cR qr_95 qt 4096 qs, cT qt dB f, cS qs qb 0, cB qb dB 0 (fun _ => 0)]) hP [0, 1, 2, 3] rfl) hK (va_D.sub (ws' := [cR qr_95 qt 4096 qs, cT qt dB f, cS qs qb 0, cB qb dB 0 (fun _ => 0)]) hD [0, 1, 2, 3] (by decide) rfl) 0 0 rfl rfl _) rfl rfl hl.1 rfl (lv_room (Nat.le_of_ble_eq_true rfl)) dX0_askedMost_67 ⟨Nat.le_of_ble_eq_true rfl, Nat.le_of_ble_eq_true rfl⟩) hP hD hS hA [0, 1, 2, 3] [] [0, 1, 2, 3] rfl rfl (by decide) (by decide) (fun _ => rfl) (by decide) (fun r_113 u_112 H locs hw_114 hP hD hS => ?_)
      have hP : va_P D vwCl [cR qr_95 qt 4096 qs, cT qt dB f, cS qs qb 0, cB qb dB 0 (fun _ => 0)] H := hP
      have hD : va_D A [cR qr_95 qt 4096 qs, cT qt dB f, cS qs qb 0, cB qb dB 0 (fun _ => 0)] := hD
      have hw_114 : r_113 = (nI 4096) := hw_114
      subst hw_114
      refine lv_sipush (v := nI 4096) hx hb dX0_askedMost_70 (by decide) ?_
      refine k_eq (tgt := 78) hx hb dX0_askedMost_73 (by decide) (by omega) (by omega) (fun c_115 => ?_) (fun c_115 => absurd c_115 (by omega))
      refine lv_aload_n hx hb dX0_askedMost_78 rfl (lv_at hl 1 rfl) ?_
      refine lv_sipush (v := nI 4081) hx hb dX0_askedMost_79 (by decide) ?_
      refine k_callv (wr := []) (w2 := fun (u_116 : Unit) => [cR qr_95 qt (((nI 4081) : Int32).toBitVec.toNat % 2 ^ 31 % (4096 + 1)) qs, cT qt dB f, cS qs qb 0, cB qb dB 0 (fun _ => 0)]) (va_runV (As := [.int (nI 4081)]) (rest := []) ⟨hx, hb, hml, hown, hts⟩ (m_trim l D dB _ qr_95 qt qs qb 4096 f 0 0 (fun _ => 0) (nI 4081) (by omega)) (cwV 1 hts (lw_V q187 q188 q189 q4 q190) rfl rfl rfl (by decide +kernel) ⟨Nat.le_of_ble_eq_true rfl, Nat.le_of_ble_eq_true rfl⟩) (k_preV (k_Psub (ws' := [cR qr_95 qt 4096 qs, cT qt dB f, cS qs qb 0, cB qb dB 0 (fun _ => 0)]) hP [0, 1, 2, 3] rfl) hK (va_D.sub (ws' := [cR qr_95 qt 4096 qs, cT qt dB f, cS qs qb 0, cB qb dB 0 (fun _ => 0)]) hD [0, 1, 2, 3] (by decide) rfl) 0 0 rfl rfl _) rfl rfl hl.1 rfl (lv_room (Nat.le_of_ble_eq_true rfl)) dX0_askedMost_82 ⟨Nat.le_of_ble_eq_true rfl, Nat.le_of_ble_eq_true rfl⟩) hP hD hS hA [0, 1, 2, 3] [] [0, 1, 2, 3] rfl rfl (by decide) (by decide) (fun _ => rfl) (by decide) (fun u_116 H locs hw_118 hP hD hS => ?_)
      have hP : va_P D vwCl [cR qr_95 qt (((nI 4081) : Int32).toBitVec.toNat % 2 ^ 31 % (4096 + 1)) qs, cT qt dB f, cS qs qb 0, cB qb dB 0 (fun _ => 0)] H := hP
      have hD : va_D A [cR qr_95 qt (((nI 4081) : Int32).toBitVec.toNat % 2 ^ 31 % (4096 + 1)) qs, cT qt dB f, cS qs qb 0, cB qb dB 0 (fun _ => 0)] := hD
      have ez_119 : ((nI 4081) : Int32).toBitVec.toNat % 2 ^ 31 % (4096 + 1) = 4081 := by decide +kernel
      rw [ez_119] at hP hD
      have hP : va_P D vwCl [cR qr_95 qt 4081 qs, cT qt dB f, cS qs qb 0, cB qb dB 0 (fun _ => 0)] H := hP
      have hD : va_D A [cR qr_95 qt 4081 qs, cT qt dB f, cS qs qb 0, cB qb dB 0 (fun _ => 0)] := hD
      refine lv_aload_n hx hb dX0_askedMost_85 rfl (lv_at hl 1 rfl) ?_
      refine lv_iconst (v := nI 1) hx hb dX0_askedMost_86 (by decide) ?_
      refine lv_iconst (v := nI 1) hx hb dX0_askedMost_87 (by decide) ?_
      refine lv_iconst (v := nI 1) hx hb dX0_askedMost_88 (by decide) ?_
      refine lv_iconst (v := nI 1) hx hb dX0_askedMost_89 (by decide) ?_
      refine k_calli (wr := []) (w2 := fun (u_120 : Unit) => [cR qr_95 qt 4081 qs, cT qt dB f, cS qs qb 0, cB qb dB 0 (fun _ => 0)]) (va_runV (As := [.int (nI 1), .int (nI 1), .int (nI 1), .int (nI 1)]) (rest := []) ⟨hx, hb, hml, hown, hts⟩ (m_putNo l D dB _ qr_95 qt qs qb 4081 f 0 0 (fun _ => 0) (nI 1) (nI 1) (nI 1) (nI 1) (by omega) (by omega)) (cwV 4 hts (lw_V q55 q56 q57 q4 q58) rfl rfl rfl (by decide +kernel) ⟨Nat.le_of_ble_eq_true rfl, Nat.le_of_ble_eq_true rfl⟩) (k_preV (k_Psub (ws' := [cR qr_95 qt 4081 qs, cT qt dB f, cS qs qb 0, cB qb dB 0 (fun _ => 0)]) hP [0, 1, 2, 3] rfl) hK (va_D.sub (ws' := [cR qr_95 qt 4081 qs, cT qt dB f, cS qs qb 0, cB qb dB 0 (fun _ => 0)]) hD [0, 1, 2, 3] (by decide) rfl) 0 0 rfl rfl _) rfl rfl hl.1 rfl (lv_room (Nat.le_of_ble_eq_true rfl)) dX0_askedMost_90 ⟨Nat.le_of_ble_eq_true rfl, Nat.le_of_ble_eq_true rfl⟩) hP hD hS hA [0, 1, 2, 3] [] [0, 1, 2, 3] rfl rfl (by decide) (by decide) (fun _ => rfl) (by decide) (fun r_121 u_120 H locs hw_122 hP hD hS => ?_)
      have hP : va_P D vwCl [cR qr_95 qt 4081 qs, cT qt dB f, cS qs qb 0, cB qb dB 0 (fun _ => 0)] H := hP
      have hD : va_D A [cR qr_95 qt 4081 qs, cT qt dB f, cS qs qb 0, cB qb dB 0 (fun _ => 0)] := hD
      have hw_122 : r_121 = (nI 0) := hw_122
      subst hw_122
      refine k_eq0 (tgt := 98) hx hb dX0_askedMost_93 (by decide) (by omega) (fun c_123 => ?_) (fun c_123 => absurd c_123 (by omega))
      refine lv_aload_n hx hb dX0_askedMost_98 rfl (lv_at hl 1 rfl) ?_
      refine lv_iconst (v := -1) hx hb dX0_askedMost_99 (by decide) ?_
      refine k_callv (wr := []) (w2 := fun (u_124 : Unit) => [cR qr_95 qt (((-1) : Int32).toBitVec.toNat % 2 ^ 31 % (4081 + 1)) qs, cT qt dB f, cS qs qb 0, cB qb dB 0 (fun _ => 0)]) (va_runV (As := [.int (-1)]) (rest := []) ⟨hx, hb, hml, hown, hts⟩ (m_trim l D dB _ qr_95 qt qs qb 4081 f 0 0 (fun _ => 0) (-1) (by omega)) (cwV 1 hts (lw_V q187 q188 q189 q4 q190) rfl rfl rfl (by decide +kernel) ⟨Nat.le_of_ble_eq_true rfl, Nat.le_of_ble_eq_true rfl⟩) (k_preV (k_Psub (ws' := [cR qr_95 qt 4081 qs, cT qt dB f, cS qs qb 0, cB qb dB 0 (fun _ => 0)]) hP [0, 1, 2, 3] rfl) hK (va_D.sub (ws' := [cR qr_95 qt 4081 qs, cT qt dB f, cS qs qb 0, cB qb dB 0 (fun _ => 0)]) hD [0, 1, 2, 3] (by decide) rfl) 0 0 rfl rfl _) rfl rfl hl.1 rfl (lv_room (Nat.le_of_ble_eq_true rfl)) dX0_askedMost_100 ⟨Nat.le_of_ble_eq_true rfl, Nat.le_of_ble_eq_true rfl⟩) hP hD hS hA [0, 1, 2, 3] [] [0, 1, 2, 3] rfl rfl (by decide) (by decide) (fun _ => rfl) (by decide) (fun u_124 H locs hw_126 hP hD hS => ?_)
      have hP : va_P D vwCl [cR qr_95 qt (((-1) : Int32).toBitVec.toNat % 2 ^ 31 % (4081 + 1)) qs, cT qt dB f, cS qs qb 0, cB qb dB 0 (fun _ => 0)] H := hP
      have hD : va_D A [cR qr_95 qt (((-1) : Int32).toBitVec.toNat % 2 ^ 31 % (4081 + 1)) qs, cT qt dB f, cS qs qb 0, cB qb dB 0 (fun _ => 0)] := hD
      have ez_127 : ((-1) : Int32).toBitVec.toNat % 2 ^ 31 % (4081 + 1) = 595 := by decide +kernel
      rw [ez_127] at hP hD
      have hP : va_P D vwCl [cR qr_95 qt 595 qs, cT qt dB f, cS qs qb 0, cB qb dB 0 (fun _ => 0)] H := hP
      have hD : va_D A [cR qr_95 qt 595 qs, cT qt dB f, cS qs qb 0, cB qb dB 0 (fun _ => 0)] := hD
      refine lv_aload_n hx hb dX0_askedMost_103 rfl (lv_at hl 1 rfl) ?_
      refine k_calli (wr := []) (w2 := fun (u_128 : Unit) => [cR qr_95 qt 595 qs, cT qt dB f, cS qs qb 0, cB qb dB 0 (fun _ => 0)]) (va_runV (As := []) (rest := []) ⟨hx, hb, hml, hown, hts⟩ (m_size l D dB _ qr_95 qt qs qb 595 f 0 0 (fun _ => 0)) (cwV 0 hts (lw_V q183 q184 q185 q4 q186) rfl rfl rfl (by decide +kernel) ⟨Nat.le_of_ble_eq_true rfl, Nat.le_of_ble_eq_true rfl⟩) (k_preV (k_Psub (ws' := [cR qr_95 qt 595 qs, cT qt dB f, cS qs qb 0, cB qb dB 0 (fun _ => 0)]) hP [0, 1, 2, 3] rfl) hK (va_D.sub (ws' := [cR qr_95 qt 595 qs, cT qt dB f, cS qs qb 0, cB qb dB 0 (fun _ => 0)]) hD [0, 1, 2, 3] (by decide) rfl) 0 0 rfl rfl _) rfl rfl hl.1 rfl (lv_room (Nat.le_of_ble_eq_true rfl)) dX0_askedMost_104 ⟨Nat.le_of_ble_eq_true rfl, Nat.le_of_ble_eq_true rfl⟩) hP hD hS hA [0, 1, 2, 3] [] [0, 1, 2, 3] rfl rfl (by decide) (by decide) (fun _ => rfl) (by decide) (fun r_129 u_128 H locs hw_130 hP hD hS => ?_)
      have hP : va_P D vwCl [cR qr_95 qt 595 qs, cT qt dB f, cS qs qb 0, cB qb dB 0 (fun _ => 0)] H := hP
      have hD : va_D A [cR qr_95 qt 595 qs, cT qt dB f, cS qs qb 0, cB qb dB 0 (fun _ => 0)] := hD
      have hw_130 : r_129 = (nI 595) := hw_130
      subst hw_130
      refine lv_sipush (v := nI 595) hx hb dX0_askedMost_107 (by decide) ?_
      refine k_eq (tgt := 115) hx hb dX0_askedMost_110 (by decide) (by omega) (by omega) (fun c_131 => ?_) (fun c_131 => absurd c_131 (by omega))
      refine lv_aload_n hx hb dX0_askedMost_115 rfl (lv_at hl 1 rfl) ?_
      refine lv_iconst (v := nI 0) hx hb dX0_askedMost_116 (by decide) ?_
      refine k_callv (wr := []) (w2 := fun (u_132 : Unit) => [cR qr_95 qt (((nI 0) : Int32).toBitVec.toNat % 2 ^ 31 % (595 + 1)) qs, cT qt dB f, cS qs qb 0, cB qb dB 0 (fun _ => 0)]) (va_runV (As := [.int (nI 0)]) (rest := []) ⟨hx, hb, hml, hown, hts⟩ (m_trim l D dB _ qr_95 qt qs qb 595 f 0 0 (fun _ => 0) (nI 0) (by omega)) (cwV 1 hts (lw_V q187 q188 q189 q4 q190) rfl rfl rfl (by decide +kernel) ⟨Nat.le_of_ble_eq_true rfl, Nat.le_of_ble_eq_true rfl⟩) (k_preV (k_Psub (ws' := [cR qr_95 qt 595 qs, cT qt dB f, cS qs qb 0, cB qb dB 0 (fun _ => 0)]) hP [0, 1, 2, 3] rfl) hK (va_D.sub (ws' := [cR qr_95 qt 595 qs, cT qt dB f, cS qs qb 0, cB qb dB 0 (fun _ => 0)]) hD [0, 1, 2, 3] (by decide) rfl) 0 0 rfl rfl _) rfl rfl hl.1 rfl (lv_room (Nat.le_of_ble_eq_true rfl)) dX0_askedMost_117 ⟨Nat.le_of_ble_eq_true rfl, Nat.le_of_ble_eq_true rfl⟩) hP hD hS hA [0, 1, 2, 3] [] [0, 1, 2, 3] rfl rfl (by decide) (by decide) (fun _ => rfl) (by decide) (fun u_132 H locs hw_134 hP hD hS => ?_)
      have hP : va_P D vwCl [cR qr_95 qt (((nI 0) : Int32).toBitVec.toNat % 2 ^ 31 % (595 + 1)) qs, cT qt dB f, cS qs qb 0, cB qb dB 0 (fun _ => 0)] H := hP
      have hD : va_D A [cR qr_95 qt (((nI 0) : Int32).toBitVec.toNat % 2 ^ 31 % (595 + 1)) qs, cT qt dB f, cS qs qb 0, cB qb dB 0 (fun _ => 0)] := hD
      have ez_135 : ((nI 0) : Int32).toBitVec.toNat % 2 ^ 31 % (595 + 1) = 0 := by decide +kernel
      rw [ez_135] at hP hD
      have hP : va_P D vwCl [cR qr_95 qt 0 qs, cT qt dB f, cS qs qb 0, cB qb dB 0 (fun _ => 0)] H := hP
      have hD : va_D A [cR qr_95 qt 0 qs, cT qt dB f, cS qs qb 0, cB qb dB 0 (fun _ => 0)] := hD
      refine lv_aload_n hx hb dX0_askedMost_120 rfl (lv_at hl 1 rfl) ?_
      refine k_calli (wr := []) (w2 := fun (u_136 : Unit) => [cR qr_95 qt 0 qs, cT qt dB f, cS qs qb 0, cB qb dB 0 (fun _ => 0)]) (va_runV (As := []) (rest := []) ⟨hx, hb, hml, hown, hts⟩ (m_size l D dB _ qr_95 qt qs qb 0 f 0 0 (fun _ => 0)) (cwV 0 hts (lw_V q183 q184 q185 q4 q186) rfl rfl rfl (by decide +kernel) ⟨Nat.le_of_ble_eq_true rfl, Nat.le_of_ble_eq_true rfl⟩) (k_preV (k_Psub (ws' := [cR qr_95 qt 0 qs, cT qt dB f, cS qs qb 0, cB qb dB 0 (fun _ => 0)]) hP [0, 1, 2, 3] rfl) hK (va_D.sub (ws' := [cR qr_95 qt 0 qs, cT qt dB f, cS qs qb 0, cB qb dB 0 (fun _ => 0)]) hD [0, 1, 2, 3] (by decide) rfl) 0 0 rfl rfl _) rfl rfl hl.1 rfl (lv_room (Nat.le_of_ble_eq_true rfl)) dX0_askedMost_121 ⟨Nat.le_of_ble_eq_true rfl, Nat.le_of_ble_eq_true rfl⟩) hP hD hS hA [0, 1, 2, 3] [] [0, 1, 2, 3] rfl rfl (by decide) (by decide) (fun _ => rfl) (by decide) (fun r_137 u_136 H locs hw_138 hP hD hS => ?_)
      have hP : va_P D vwCl [cR qr_95 qt 0 qs, cT qt dB f, cS qs qb 0, cB qb dB 0 (fun _ => 0)] H := hP
      have hD : va_D A [cR qr_95 qt 0 qs, cT qt dB f, cS qs qb 0, cB qb dB 0 (fun _ => 0)] := hD
      have hw_138 : r_137 = (nI 0) := hw_138
      subst hw_138
      refine k_ne0 (tgt := 142) hx hb dX0_askedMost_124 (by decide) (by omega) (fun c_139 => absurd c_139 (by omega)) (fun c_139 => ?_)
      refine lv_aload_n hx hb dX0_askedMost_127 rfl (lv_at hl 1 rfl) ?_
      refine lv_iconst (v := nI 1) hx hb dX0_askedMost_128 (by decide) ?_
      refine lv_iconst (v := nI 1) hx hb dX0_askedMost_129 (by decide) ?_
      refine lv_iconst (v := nI 1) hx hb dX0_askedMost_130 (by decide) ?_
      refine lv_iconst (v := nI 1) hx hb dX0_askedMost_131 (by decide) ?_
      refine k_calli (wr := []) (w2 := fun (u_140 : (Nat → Int32)) => [cR qr_95 qt (0 + 16) qs, cT qt dB u_140, cS qs qb 0, cB qb dB 0 (fun _ => 0)]) (va_runV (As := [.int (nI 1), .int (nI 1), .int (nI 1), .int (nI 1)]) (rest := []) ⟨hx, hb, hml, hown, hts⟩ (m_put l D dB _ qr_95 qt qs qb 0 f 0 0 (fun _ => 0) (nI 1) (nI 1) (nI 1) (nI 1) (by omega)) (cwV 4 hts (lw_V q55 q56 q57 q4 q58) rfl rfl rfl (by decide +kernel) ⟨Nat.le_of_ble_eq_true rfl, Nat.le_of_ble_eq_true rfl⟩) (k_preV (k_Psub (ws' := [cR qr_95 qt 0 qs, cT qt dB f, cS qs qb 0, cB qb dB 0 (fun _ => 0)]) hP [0, 1, 2, 3] rfl) hK (va_D.sub (ws' := [cR qr_95 qt 0 qs, cT qt dB f, cS qs qb 0, cB qb dB 0 (fun _ => 0)]) hD [0, 1, 2, 3] (by decide) rfl) 0 0 rfl rfl _) rfl rfl hl.1 rfl (lv_room (Nat.le_of_ble_eq_true rfl)) dX0_askedMost_132 ⟨Nat.le_of_ble_eq_true rfl, Nat.le_of_ble_eq_true rfl⟩) hP hD hS hA [0, 1, 2, 3] [] [0, 1, 2, 3] rfl rfl (by decide) (by decide) (fun _ => rfl) (by decide) (fun r_141 u_140 H locs hw_142 hP hD hS => ?_)
      obtain ⟨pf9, rfl⟩ : ∃ z, z = u_140 := ⟨_, rfl⟩
      have hP : va_P D vwCl [cR qr_95 qt (0 + 16) qs, cT qt dB pf9, cS qs qb 0, cB qb dB 0 (fun _ => 0)] H := hP
      have hD : va_D A [cR qr_95 qt (0 + 16) qs, cT qt dB pf9, cS qs qb 0, cB qb dB 0 (fun _ => 0)] := hD
      have hw_142 : r_141 = nI 1 ∧ ∀ i, zb_byt (pf9 i) = if 0 ≤ i ∧ i < 0 + 16 then zb_in4 (zb_pick (nI 1) (nI 1) (nI 1) (nI 1) ((i - 0) / 4)) ((i - 0) % 4) else zb_byt (f i) := hw_142
      have qhw_142 := hw_142.2
      have ehw_142 := hw_142.1
      subst ehw_142
      have hp9 := qhw_142
      refine k_eq0 (tgt := 142) hx hb dX0_askedMost_135 (by decide) (by omega) (fun c_143 => absurd c_143 (by omega)) (fun c_143 => ?_)
      refine lv_iconst (v := nI 1) hx hb dX0_askedMost_138 (by decide) ?_
      refine lv_goto (tgt := 143) hx hb dX0_askedMost_139 (by decide) ?_
      refine W.widen (k := 4) (n := 4102) (Nat.le_of_ble_eq_true rfl) (Nat.le_of_ble_eq_true rfl) ?_
      exact W.zret (v := (nI 1)) hx hb hr rfl (fun t ht hW => ⟨⟨(nI 1), (), rfl, rfl, trivial⟩, hS.F ht⟩) hS.2.2 dX0_askedMost_143
    | succ d ih =>
      intro k f hd hk H locs ls hP hD hS hl
      refine lv_iload_n hx hb dX0_askedMost_10 rfl (lv_at hl 0 rfl) ?_
      refine lv_sipush (v := nI 256) hx hb dX0_askedMost_11 (by decide) ?_
      refine k_ge (tgt := 36) hx hb dX0_askedMost_14 (by decide) (by omega) (by omega) (fun cl => ?_) (fun cl => ?_)
      · have ei : 16 * k = 4096 := by omega
        rw [ei] at hP hD
        have hP : va_P D vwCl [cR qr_95 qt 4096 qs, cT qt dB f, cS qs qb 0, cB qb dB 0 (fun _ => 0)] H := hP
        have hD : va_D A [cR qr_95 qt 4096 qs, cT qt dB f, cS qs qb 0, cB qb dB 0 (fun _ => 0)] := hD
        refine lv_aload_n hx hb dX0_askedMost_36 rfl (lv_at hl 1 rfl) ?_
        refine lv_iconst (v := nI 1) hx hb dX0_askedMost_37 (by decide) ?_
        refine lv_iconst (v := nI 1) hx hb dX0_askedMost_38 (by decide) ?_
        refine lv_iconst (v := nI 1) hx hb dX0_askedMost_39 (by decide) ?_
        refine lv_iconst (v := nI 1) hx hb dX0_askedMost_40 (by decide) ?_
        refine k_calli (wr := []) (w2 := fun (u_144 : Unit) => [cR qr_95 qt 4096 qs, cT qt dB f, cS qs qb 0, cB qb dB 0 (fun _ => 0)]) (va_runV (As := [.int (nI 1), .int (nI 1), .int (nI 1), .int (nI 1)]) (rest := []) ⟨hx, hb, hml, hown, hts⟩ (m_putNo l D dB _ qr_95 qt qs qb 4096 f 0 0 (fun _ => 0) (nI 1) (nI 1) (nI 1) (nI 1) (by omega) (by omega)) (cwV 4 hts (lw_V q55 q56 q57 q4 q58) rfl rfl rfl (by decide +kernel) ⟨Nat.le_of_ble_eq_true rfl, Nat.le_of_ble_eq_true rfl⟩) (k_preV (k_Psub (ws' := [cR qr_95 qt 4096 qs, cT qt dB f, cS qs qb 0, cB qb dB 0 (fun _ => 0)]) hP [0, 1, 2, 3] rfl) hK (va_D.sub (ws' := [cR qr_95 qt 4096 qs, cT qt dB f, cS qs qb 0, cB qb dB 0 (fun _ => 0)]) hD [0, 1, 2, 3] (by decide) rfl) 0 0 rfl rfl _) rfl rfl hl.1 rfl (lv_room (Nat.le_of_ble_eq_true rfl)) dX0_askedMost_41 ⟨Nat.le_of_ble_eq_true rfl, Nat.le_of_ble_eq_true rfl⟩) hP hD hS hA [0, 1, 2, 3] [] [0, 1, 2, 3] rfl rfl (by decide) (by decide) (fun _ => rfl) (by decide) (fun r_145 u_144 H locs hw_146 hP hD hS => ?_)
        have hP : va_P D vwCl [cR qr_95 qt 4096 qs, cT qt dB f, cS qs qb 0, cB qb dB 0 (fun _ => 0)] H := hP
        have hD : va_D A [cR qr_95 qt 4096 qs, cT qt dB f, cS qs qb 0, cB qb dB 0 (fun _ => 0)] := hD
        have hw_146 : r_145 = (nI 0) := hw_146
        subst hw_146
        refine k_ne0 (tgt := 57) hx hb dX0_askedMost_44 (by decide) (by omega) (fun c_147 => absurd c_147 (by omega)) (fun c_147 => ?_)
        refine lv_aload_n hx hb dX0_askedMost_47 rfl (lv_at hl 1 rfl) ?_
        refine k_calli (wr := []) (w2 := fun (u_148 : Unit) => [cR qr_95 qt 4096 qs, cT qt dB f, cS qs qb 0, cB qb dB 0 (fun _ => 0)]) (va_runV (As := []) (rest := []) ⟨hx, hb, hml, hown, hts⟩ (m_size l D dB _ qr_95 qt qs qb 4096 f 0 0 (fun _ => 0)) (cwV 0 hts (lw_V q183 q184 q185 q4 q186) rfl rfl rfl (by decide +kernel) ⟨Nat.le_of_ble_eq_true rfl, Nat.le_of_ble_eq_true rfl⟩) (k_preV (k_Psub (ws' := [cR qr_95 qt 4096 qs, cT qt dB f, cS qs qb 0, cB qb dB 0 (fun _ => 0)]) hP [0, 1, 2, 3] rfl) hK (va_D.sub (ws' := [cR qr_95 qt 4096 qs, cT qt dB f, cS qs qb 0, cB qb dB 0 (fun _ => 0)]) hD [0, 1, 2, 3] (by decide) rfl) 0 0 rfl rfl _) rfl rfl hl.1 rfl (lv_room (Nat.le_of_ble_eq_true rfl)) dX0_askedMost_48 ⟨Nat.le_of_ble_eq_true rfl, Nat.le_of_ble_eq_true rfl⟩) hP hD hS hA [0, 1, 2, 3] [] [0, 1, 2, 3] rfl rfl (by decide) (by decide) (fun _ => rfl) (by decide) (fun r_149 u_148 H locs hw_150 hP hD hS => ?_)
        have hP : va_P D vwCl [cR qr_95 qt 4096 qs, cT qt dB f, cS qs qb 0, cB qb dB 0 (fun _ => 0)] H := hP
        have hD : va_D A [cR qr_95 qt 4096 qs, cT qt dB f, cS qs qb 0, cB qb dB 0 (fun _ => 0)] := hD
        have hw_150 : r_149 = (nI 4096) := hw_150
        subst hw_150
        refine lv_sipush (v := nI 4096) hx hb dX0_askedMost_51 (by decide) ?_
        refine k_eq (tgt := 59) hx hb dX0_askedMost_54 (by decide) (by omega) (by omega) (fun c_151 => ?_) (fun c_151 => absurd c_151 (by omega))
        refine lv_aload_n hx hb dX0_askedMost_59 rfl (lv_at hl 1 rfl) ?_
        refine lv_sipush (v := nI 4096) hx hb dX0_askedMost_60 (by decide) ?_
        refine k_callv (wr := []) (w2 := fun (u_152 : Unit) => [cR qr_95 qt (((nI 4096) : Int32).toBitVec.toNat % 2 ^ 31 % (4096 + 1)) qs, cT qt dB f, cS qs qb 0, cB qb dB 0 (fun _ => 0)]) (va_runV (As := [.int (nI 4096)]) (rest := []) ⟨hx, hb, hml, hown, hts⟩ (m_trim l D dB _ qr_95 qt qs qb 4096 f 0 0 (fun _ => 0) (nI 4096) (by omega)) (cwV 1 hts (lw_V q187 q188 q189 q4 q190) rfl rfl rfl (by decide +kernel) ⟨Nat.le_of_ble_eq_true rfl, Nat.le_of_ble_eq_true rfl⟩) (k_preV (k_Psub (ws' := [cR qr_95 qt 4096 qs, cT qt dB f, cS qs qb 0, cB qb dB 0 (fun _ => 0)]) hP [0, 1, 2, 3] rfl) hK (va_D.sub (ws' := [cR qr_95 qt 4096 qs, cT qt dB f, cS qs qb 0, cB qb dB 0 (fun _ => 0)]) hD [0, 1, 2, 3] (by decide) rfl) 0 0 rfl rfl _) rfl rfl hl.1 rfl (lv_room (Nat.le_of_ble_eq_true rfl)) dX0_askedMost_63 ⟨Nat.le_of_ble_eq_true rfl, Nat.le_of_ble_eq_true rfl⟩) hP hD hS hA [0, 1, 2, 3] [] [0, 1, 2, 3] rfl rfl (by decide) (by decide) (fun _ => rfl) (by decide) (fun u_152 H locs hw_154 hP hD hS => ?_)
        have hP : va_P D vwCl [cR qr_95 qt (((nI 4096) : Int32).toBitVec.toNat % 2 ^ 31 % (4096 + 1)) qs, cT qt dB f, cS qs qb 0, cB qb dB 0 (fun _ => 0)] H := hP
        have hD : va_D A [cR qr_95 qt (((nI 4096) : Int32).toBitVec.toNat % 2 ^ 31 % (4096 + 1)) qs, cT qt dB f, cS qs qb 0, cB qb dB 0 (fun _ => 0)] := hD
        have ez_155 : ((nI 4096) : Int32).toBitVec.toNat % 2 ^ 31 % (4096 + 1) = 4096 := by decide +kernel
        rw [ez_155] at hP hD
        have hP : va_P D vwCl [cR qr_95 qt 4096 qs, cT qt dB f, cS qs qb 0, cB qb dB 0 (fun _ => 0)] H := hP
        have hD : va_D A [cR qr_95 qt 4096 qs, cT qt dB f, cS qs qb 0, cB qb dB 0 (fun _ => 0)] := hD
        refine lv_aload_n hx hb dX0_askedMost_66 rfl (lv_at hl 1 rfl) ?_
        refine k_calli (wr := []) (w2 := fun (u_156 : Unit) => [cR qr_95 qt 4096 qs, cT qt dB f, cS qs qb 0, cB qb dB 0 (fun _ => 0)]) (va_runV (As := []) (rest := []) ⟨hx, hb, hml, hown, hts⟩ (m_size l D dB _ qr_95 qt qs qb 4096 f 0 0 (fun _ => 0)) (cwV 0 hts (lw_V q183 q184 q185 q4 q186) rfl rfl rfl (by decide +kernel) ⟨Nat.le_of_ble_eq_true rfl, Nat.le_of_ble_eq_true rfl⟩) (k_preV (k_Psub (ws' := [cR qr_95 qt 4096 qs, cT qt dB f, cS qs qb 0, cB qb dB 0 (fun _ => 0)]) hP [0, 1, 2, 3] rfl) hK (va_D.sub (ws' := [cR qr_95 qt 4096 qs, cT qt dB f, cS qs qb 0, cB qb dB 0 (fun _ => 0)]) hD [0, 1, 2, 3] (by decide) rfl) 0 0 rfl rfl _) rfl rfl hl.1 rfl (lv_room (Nat.le_of_ble_eq_true rfl)) dX0_askedMost_67 ⟨Nat.le_of_ble_eq_true rfl, Nat.le_of_ble_eq_true rfl⟩) hP hD hS hA [0, 1, 2, 3] [] [0, 1, 2, 3] rfl rfl (by decide) (by decide) (fun _ => rfl) (by decide) (fun r_157 u_156 H locs hw_158 hP hD hS => ?_)
        have hP : va_P D vwCl [cR qr_95 qt 4096 qs, cT qt dB f, cS qs qb 0, cB qb dB 0 (fun _ => 0)] H := hP
        have hD : va_D A [cR qr_95 qt 4096 qs, cT qt dB f, cS qs qb 0, cB qb dB 0 (fun _ => 0)] := hD
        have hw_158 : r_157 = (nI 4096) := hw_158
        subst hw_158
        refine lv_sipush (v := nI 4096) hx hb dX0_askedMost_70 (by decide) ?_
        refine k_eq (tgt := 78) hx hb dX0_askedMost_73 (by decide) (by omega) (by omega) (fun c_159 => ?_) (fun c_159 => absurd c_159 (by omega))
        refine lv_aload_n hx hb dX0_askedMost_78 rfl (lv_at hl 1 rfl) ?_
        refine lv_sipush (v := nI 4081) hx hb dX0_askedMost_79 (by decide) ?_
        refine k_callv (wr := []) (w2 := fun (u_160 : Unit) => [cR qr_95 qt (((nI 4081) : Int32).toBitVec.toNat % 2 ^ 31 % (4096 + 1)) qs, cT qt dB f, cS qs qb 0, cB qb dB 0 (fun _ => 0)]) (va_runV (As := [.int (nI 4081)]) (rest := []) ⟨hx, hb, hml, hown, hts⟩ (m_trim l D dB _ qr_95 qt qs qb 4096 f 0 0 (fun _ => 0) (nI 4081) (by omega)) (cwV 1 hts (lw_V q187 q188 q189 q4 q190) rfl rfl rfl (by decide +kernel) ⟨Nat.le_of_ble_eq_true rfl, Nat.le_of_ble_eq_true rfl⟩) (k_preV (k_Psub (ws' := [cR qr_95 qt 4096 qs, cT qt dB f, cS qs qb 0, cB qb dB 0 (fun _ => 0)]) hP [0, 1, 2, 3] rfl) hK (va_D.sub (ws' := [cR qr_95 qt 4096 qs, cT qt dB f, cS qs qb 0, cB qb dB 0 (fun _ => 0)]) hD [0, 1, 2, 3] (by decide) rfl) 0 0 rfl rfl _) rfl rfl hl.1 rfl (lv_room (Nat.le_of_ble_eq_true rfl)) dX0_askedMost_82 ⟨Nat.le_of_ble_eq_true rfl, Nat.le_of_ble_eq_true rfl⟩) hP hD hS hA [0, 1, 2, 3] [] [0, 1, 2, 3] rfl rfl (by decide) (by decide) (fun _ => rfl) (by decide) (fun u_160 H locs hw_162 hP hD hS => ?_)
        have hP : va_P D vwCl [cR qr_95 qt (((nI 4081) : Int32).toBitVec.toNat % 2 ^ 31 % (4096 + 1)) qs, cT qt dB f, cS qs qb 0, cB qb dB 0 (fun _ => 0)] H := hP
        have hD : va_D A [cR qr_95 qt (((nI 4081) : Int32).toBitVec.toNat % 2 ^ 31 % (4096 + 1)) qs, cT qt dB f, cS qs qb 0, cB qb dB 0 (fun _ => 0)] := hD
        have ez_163 : ((nI 4081) : Int32).toBitVec.toNat % 2 ^ 31 % (4096 + 1) = 4081 := by decide +kernel
        rw [ez_163] at hP hD
        have hP : va_P D vwCl [cR qr_95 qt 4081 qs, cT qt dB f, cS qs qb 0, cB qb dB 0 (fun _ => 0)] H := hP
        have hD : va_D A [cR qr_95 qt 4081 qs, cT qt dB f, cS qs qb 0, cB qb dB 0 (fun _ => 0)] := hD
        refine lv_aload_n hx hb dX0_askedMost_85 rfl (lv_at hl 1 rfl) ?_
        refine lv_iconst (v := nI 1) hx hb dX0_askedMost_86 (by decide) ?_
        refine lv_iconst (v := nI 1) hx hb dX0_askedMost_87 (by decide) ?_
        refine lv_iconst (v := nI 1) hx hb dX0_askedMost_88 (by decide) ?_
        refine lv_iconst (v := nI 1) hx hb dX0_askedMost_89 (by decide) ?_
        refine k_calli (wr := []) (w2 := fun (u_164 : Unit) => [cR qr_95 qt 4081 qs, cT qt dB f, cS qs qb 0, cB qb dB 0 (fun _ => 0)]) (va_runV (As := [.int (nI 1), .int (nI 1), .int (nI 1), .int (nI 1)]) (rest := []) ⟨hx, hb, hml, hown, hts⟩ (m_putNo l D dB _ qr_95 qt qs qb 4081 f 0 0 (fun _ => 0) (nI 1) (nI 1) (nI 1) (nI 1) (by omega) (by omega)) (cwV 4 hts (lw_V q55 q56 q57 q4 q58) rfl rfl rfl (by decide +kernel) ⟨Nat.le_of_ble_eq_true rfl, Nat.le_of_ble_eq_true rfl⟩) (k_preV (k_Psub (ws' := [cR qr_95 qt 4081 qs, cT qt dB f, cS qs qb 0, cB qb dB 0 (fun _ => 0)]) hP [0, 1, 2, 3] rfl) hK (va_D.sub (ws' := [cR qr_95 qt 4081 qs, cT qt dB f, cS qs qb 0, cB qb dB 0 (fun _ => 0)]) hD [0, 1, 2, 3] (by decide) rfl) 0 0 rfl rfl _) rfl rfl hl.1 rfl (lv_room (Nat.le_of_ble_eq_true rfl)) dX0_askedMost_90 ⟨Nat.le_of_ble_eq_true rfl, Nat.le_of_ble_eq_true rfl⟩) hP hD hS hA [0, 1, 2, 3] [] [0, 1, 2, 3] rfl rfl (by decide) (by decide) (fun _ => rfl) (by decide) (fun r_165 u_164 H locs hw_166 hP hD hS => ?_)
        have hP : va_P D vwCl [cR qr_95 qt 4081 qs, cT qt dB f, cS qs qb 0, cB qb dB 0 (fun _ => 0)] H := hP
        have hD : va_D A [cR qr_95 qt 4081 qs, cT qt dB f, cS qs qb 0, cB qb dB 0 (fun _ => 0)] := hD
        have hw_166 : r_165 = (nI 0) := hw_166
        subst hw_166
        refine k_eq0 (tgt := 98) hx hb dX0_askedMost_93 (by decide) (by omega) (fun c_167 => ?_) (fun c_167 => absurd c_167 (by omega))
        refine lv_aload_n hx hb dX0_askedMost_98 rfl (lv_at hl 1 rfl) ?_
        refine lv_iconst (v := -1) hx hb dX0_askedMost_99 (by decide) ?_
        refine k_callv (wr := []) (w2 := fun (u_168 : Unit) => [cR qr_95 qt (((-1) : Int32).toBitVec.toNat % 2 ^ 31 % (4081 + 1)) qs, cT qt dB f, cS qs qb 0, cB qb dB 0 (fun _ => 0)]) (va_runV (As := [.int (-1)]) (rest := []) ⟨hx, hb, hml, hown, hts⟩ (m_trim l D dB _ qr_95 qt qs qb 4081 f 0 0 (fun _ => 0) (-1) (by omega)) (cwV 1 hts (lw_V q187 q188 q189 q4 q190) rfl rfl rfl (by decide +kernel) ⟨Nat.le_of_ble_eq_true rfl, Nat.le_of_ble_eq_true rfl⟩) (k_preV (k_Psub (ws' := [cR qr_95 qt 4081 qs, cT qt dB f, cS qs qb 0, cB qb dB 0 (fun _ => 0)]) hP [0, 1, 2, 3] rfl) hK (va_D.sub (ws' := [cR qr_95 qt 4081 qs, cT qt dB f, cS qs qb 0, cB qb dB 0 (fun _ => 0)]) hD [0, 1, 2, 3] (by decide) rfl) 0 0 rfl rfl _) rfl rfl hl.1 rfl (lv_room (Nat.le_of_ble_eq_true rfl)) dX0_askedMost_100 ⟨Nat.le_of_ble_eq_true rfl, Nat.le_of_ble_eq_true rfl⟩) hP hD hS hA [0, 1, 2, 3] [] [0, 1, 2, 3] rfl rfl (by decide) (by decide) (fun _ => rfl) (by decide) (fun u_168 H locs hw_170 hP hD hS => ?_)
        have hP : va_P D vwCl [cR qr_95 qt (((-1) : Int32).toBitVec.toNat % 2 ^ 31 % (4081 + 1)) qs, cT qt dB f, cS qs qb 0, cB qb dB 0 (fun _ => 0)] H := hP
        have hD : va_D A [cR qr_95 qt (((-1) : Int32).toBitVec.toNat % 2 ^ 31 % (4081 + 1)) qs, cT qt dB f, cS qs qb 0, cB qb dB 0 (fun _ => 0)] := hD
        have ez_171 : ((-1) : Int32).toBitVec.toNat % 2 ^ 31 % (4081 + 1) = 595 := by decide +kernel
        rw [ez_171] at hP hD
        have hP : va_P D vwCl [cR qr_95 qt 595 qs, cT qt dB f, cS qs qb 0, cB qb dB 0 (fun _ => 0)] H := hP
        have hD : va_D A [cR qr_95 qt 595 qs, cT qt dB f, cS qs qb 0, cB qb dB 0 (fun _ => 0)] := hD
        refine lv_aload_n hx hb dX0_askedMost_103 rfl (lv_at hl 1 rfl) ?_
        refine k_calli (wr := []) (w2 := fun (u_172 : Unit) => [cR qr_95 qt 595 qs, cT qt dB f, cS qs qb 0, cB qb dB 0 (fun _ => 0)]) (va_runV (As := []) (rest := []) ⟨hx, hb, hml, hown, hts⟩ (m_size l D dB _ qr_95 qt qs qb 595 f 0 0 (fun _ => 0)) (cwV 0 hts (lw_V q183 q184 q185 q4 q186) rfl rfl rfl (by decide +kernel) ⟨Nat.le_of_ble_eq_true rfl, Nat.le_of_ble_eq_true rfl⟩) (k_preV (k_Psub (ws' := [cR qr_95 qt 595 qs, cT qt dB f, cS qs qb 0, cB qb dB 0 (fun _ => 0)]) hP [0, 1, 2, 3] rfl) hK (va_D.sub (ws' := [cR qr_95 qt 595 qs, cT qt dB f, cS qs qb 0, cB qb dB 0 (fun _ => 0)]) hD [0, 1, 2, 3] (by decide) rfl) 0 0 rfl rfl _) rfl rfl hl.1 rfl (lv_room (Nat.le_of_ble_eq_true rfl)) dX0_askedMost_104 ⟨Nat.le_of_ble_eq_true rfl, Nat.le_of_ble_eq_true rfl⟩) hP hD hS hA [0, 1, 2, 3] [] [0, 1, 2, 3] rfl rfl (by decide) (by decide) (fun _ => rfl) (by decide) (fun r_173 u_172 H locs hw_174 hP hD hS => ?_)
        have hP : va_P D vwCl [cR qr_95 qt 595 qs, cT qt dB f, cS qs qb 0, cB qb dB 0 (fun _ => 0)] H := hP
        have hD : va_D A [cR qr_95 qt 595 qs, cT qt dB f, cS qs qb 0, cB qb dB 0 (fun _ => 0)] := hD
        have hw_174 : r_173 = (nI 595) := hw_174
        subst hw_174
        refine lv_sipush (v := nI 595) hx hb dX0_askedMost_107 (by decide) ?_
        refine k_eq (tgt := 115) hx hb dX0_askedMost_110 (by decide) (by omega) (by omega) (fun c_175 => ?_) (fun c_175 => absurd c_175 (by omega))
        refine lv_aload_n hx hb dX0_askedMost_115 rfl (lv_at hl 1 rfl) ?_
        refine lv_iconst (v := nI 0) hx hb dX0_askedMost_116 (by decide) ?_
        refine k_callv (wr := []) (w2 := fun (u_176 : Unit) => [cR qr_95 qt (((nI 0) : Int32).toBitVec.toNat % 2 ^ 31 % (595 + 1)) qs, cT qt dB f, cS qs qb 0, cB qb dB 0 (fun _ => 0)]) (va_runV (As := [.int (nI 0)]) (rest := []) ⟨hx, hb, hml, hown, hts⟩ (m_trim l D dB _ qr_95 qt qs qb 595 f 0 0 (fun _ => 0) (nI 0) (by omega)) (cwV 1 hts (lw_V q187 q188 q189 q4 q190) rfl rfl rfl (by decide +kernel) ⟨Nat.le_of_ble_eq_true rfl, Nat.le_of_ble_eq_true rfl⟩) (k_preV (k_Psub (ws' := [cR qr_95 qt 595 qs, cT qt dB f, cS qs qb 0, cB qb dB 0 (fun _ => 0)]) hP [0, 1, 2, 3] rfl) hK (va_D.sub (ws' := [cR qr_95 qt 595 qs, cT qt dB f, cS qs qb 0, cB qb dB 0 (fun _ => 0)]) hD [0, 1, 2, 3] (by decide) rfl) 0 0 rfl rfl _) rfl rfl hl.1 rfl (lv_room (Nat.le_of_ble_eq_true rfl)) dX0_askedMost_117 ⟨Nat.le_of_ble_eq_true rfl, Nat.le_of_ble_eq_true rfl⟩) hP hD hS hA [0, 1, 2, 3] [] [0, 1, 2, 3] rfl rfl (by decide) (by decide) (fun _ => rfl) (by decide) (fun u_176 H locs hw_178 hP hD hS => ?_)
        have hP : va_P D vwCl [cR qr_95 qt (((nI 0) : Int32).toBitVec.toNat % 2 ^ 31 % (595 + 1)) qs, cT qt dB f, cS qs qb 0, cB qb dB 0 (fun _ => 0)] H := hP
        have hD : va_D A [cR qr_95 qt (((nI 0) : Int32).toBitVec.toNat % 2 ^ 31 % (595 + 1)) qs, cT qt dB f, cS qs qb 0, cB qb dB 0 (fun _ => 0)] := hD
        have ez_179 : ((nI 0) : Int32).toBitVec.toNat % 2 ^ 31 % (595 + 1) = 0 := by decide +kernel
        rw [ez_179] at hP hD
        have hP : va_P D vwCl [cR qr_95 qt 0 qs, cT qt dB f, cS qs qb 0, cB qb dB 0 (fun _ => 0)] H := hP
        have hD : va_D A [cR qr_95 qt 0 qs, cT qt dB f, cS qs qb 0, cB qb dB 0 (fun _ => 0)] := hD
        refine lv_aload_n hx hb dX0_askedMost_120 rfl (lv_at hl 1 rfl) ?_
        refine k_calli (wr := []) (w2 := fun (u_180 : Unit) => [cR qr_95 qt 0 qs, cT qt dB f, cS qs qb 0, cB qb dB 0 (fun _ => 0)]) (va_runV (As := []) (rest := []) ⟨hx, hb, hml, hown, hts⟩ (m_size l D dB _ qr_95 qt qs qb 0 f 0 0 (fun _ => 0)) (cwV 0 hts (lw_V q183 q184 q185 q4 q186) rfl rfl rfl (by decide +kernel) ⟨Nat.le_of_ble_eq_true rfl, Nat.le_of_ble_eq_true rfl⟩) (k_preV (k_Psub (ws' := [cR qr_95 qt 0 qs, cT qt dB f, cS qs qb 0, cB qb dB 0 (fun _ => 0)]) hP [0, 1, 2, 3] rfl) hK (va_D.sub (ws' := [cR qr_95 qt 0 qs, cT qt dB f, cS qs qb 0, cB qb dB 0 (fun _ => 0)]) hD [0, 1, 2, 3] (by decide) rfl) 0 0 rfl rfl _) rfl rfl hl.1 rfl (lv_room (Nat.le_of_ble_eq_true rfl)) dX0_askedMost_121 ⟨Nat.le_of_ble_eq_true rfl, Nat.le_of_ble_eq_true rfl⟩) hP hD hS hA [0, 1, 2, 3] [] [0, 1, 2, 3] rfl rfl (by decide) (by decide) (fun _ => rfl) (by decide) (fun r_181 u_180 H locs hw_182 hP hD hS => ?_)
        have hP : va_P D vwCl [cR qr_95 qt 0 qs, cT qt dB f, cS qs qb 0, cB qb dB 0 (fun _ => 0)] H := hP
        have hD : va_D A [cR qr_95 qt 0 qs, cT qt dB f, cS qs qb 0, cB qb dB 0 (fun _ => 0)] := hD
        have hw_182 : r_181 = (nI 0) := hw_182
        subst hw_182
        refine k_ne0 (tgt := 142) hx hb dX0_askedMost_124 (by decide) (by omega) (fun c_183 => absurd c_183 (by omega)) (fun c_183 => ?_)
        refine lv_aload_n hx hb dX0_askedMost_127 rfl (lv_at hl 1 rfl) ?_
        refine lv_iconst (v := nI 1) hx hb dX0_askedMost_128 (by decide) ?_
        refine lv_iconst (v := nI 1) hx hb dX0_askedMost_129 (by decide) ?_
        refine lv_iconst (v := nI 1) hx hb dX0_askedMost_130 (by decide) ?_
        refine lv_iconst (v := nI 1) hx hb dX0_askedMost_131 (by decide) ?_
        refine k_calli (wr := []) (w2 := fun (u_184 : (Nat → Int32)) => [cR qr_95 qt (0 + 16) qs, cT qt dB u_184, cS qs qb 0, cB qb dB 0 (fun _ => 0)]) (va_runV (As := [.int (nI 1), .int (nI 1), .int (nI 1), .int (nI 1)]) (rest := []) ⟨hx, hb, hml, hown, hts⟩ (m_put l D dB _ qr_95 qt qs qb 0 f 0 0 (fun _ => 0) (nI 1) (nI 1) (nI 1) (nI 1) (by omega)) (cwV 4 hts (lw_V q55 q56 q57 q4 q58) rfl rfl rfl (by decide +kernel) ⟨Nat.le_of_ble_eq_true rfl, Nat.le_of_ble_eq_true rfl⟩) (k_preV (k_Psub (ws' := [cR qr_95 qt 0 qs, cT qt dB f, cS qs qb 0, cB qb dB 0 (fun _ => 0)]) hP [0, 1, 2, 3] rfl) hK (va_D.sub (ws' := [cR qr_95 qt 0 qs, cT qt dB f, cS qs qb 0, cB qb dB 0 (fun _ => 0)]) hD [0, 1, 2, 3] (by decide) rfl) 0 0 rfl rfl _) rfl rfl hl.1 rfl (lv_room (Nat.le_of_ble_eq_true rfl)) dX0_askedMost_132 ⟨Nat.le_of_ble_eq_true rfl, Nat.le_of_ble_eq_true rfl⟩) hP hD hS hA [0, 1, 2, 3] [] [0, 1, 2, 3] rfl rfl (by decide) (by decide) (fun _ => rfl) (by decide) (fun r_185 u_184 H locs hw_186 hP hD hS => ?_)
        obtain ⟨pf9, rfl⟩ : ∃ z, z = u_184 := ⟨_, rfl⟩
        have hP : va_P D vwCl [cR qr_95 qt (0 + 16) qs, cT qt dB pf9, cS qs qb 0, cB qb dB 0 (fun _ => 0)] H := hP
        have hD : va_D A [cR qr_95 qt (0 + 16) qs, cT qt dB pf9, cS qs qb 0, cB qb dB 0 (fun _ => 0)] := hD
        have hw_186 : r_185 = nI 1 ∧ ∀ i, zb_byt (pf9 i) = if 0 ≤ i ∧ i < 0 + 16 then zb_in4 (zb_pick (nI 1) (nI 1) (nI 1) (nI 1) ((i - 0) / 4)) ((i - 0) % 4) else zb_byt (f i) := hw_186
        have qhw_186 := hw_186.2
        have ehw_186 := hw_186.1
        subst ehw_186
        have hp9 := qhw_186
        refine k_eq0 (tgt := 142) hx hb dX0_askedMost_135 (by decide) (by omega) (fun c_187 => absurd c_187 (by omega)) (fun c_187 => ?_)
        refine lv_iconst (v := nI 1) hx hb dX0_askedMost_138 (by decide) ?_
        refine lv_goto (tgt := 143) hx hb dX0_askedMost_139 (by decide) ?_
        refine W.widen (k := 4) (n := 4102) (Nat.le_of_ble_eq_true rfl) (Nat.le_of_ble_eq_true rfl) ?_
        exact W.zret (v := (nI 1)) hx hb hr rfl (fun t ht hW => ⟨⟨(nI 1), (), rfl, rfl, trivial⟩, hS.F ht⟩) hS.2.2 dX0_askedMost_143
      · refine lv_aload_n hx hb dX0_askedMost_17 rfl (lv_at hl 1 rfl) ?_
        refine lv_iload_n hx hb dX0_askedMost_18 rfl (lv_at hl 0 rfl) ?_
        refine lv_iconst (v := nI 0) hx hb dX0_askedMost_19 (by decide) ?_
        refine lv_iconst (v := nI 0) hx hb dX0_askedMost_20 (by decide) ?_
        refine lv_iconst (v := nI 1) hx hb dX0_askedMost_21 (by decide) ?_
        refine k_calli (wr := []) (w2 := fun (u_188 : (Nat → Int32)) => [cR qr_95 qt ((16 * k) + 16) qs, cT qt dB u_188, cS qs qb 0, cB qb dB 0 (fun _ => 0)]) (va_runV (As := [.int (nI k), .int (nI 0), .int (nI 0), .int (nI 1)]) (rest := []) ⟨hx, hb, hml, hown, hts⟩ (m_put l D dB _ qr_95 qt qs qb (16 * k) f 0 0 (fun _ => 0) (nI k) (nI 0) (nI 0) (nI 1) (by omega)) (cwV 4 hts (lw_V q55 q56 q57 q4 q58) rfl rfl rfl (by decide +kernel) ⟨Nat.le_of_ble_eq_true rfl, Nat.le_of_ble_eq_true rfl⟩) (k_preV (k_Psub (ws' := [cR qr_95 qt (16 * k) qs, cT qt dB f, cS qs qb 0, cB qb dB 0 (fun _ => 0)]) hP [0, 1, 2, 3] rfl) hK (va_D.sub (ws' := [cR qr_95 qt (16 * k) qs, cT qt dB f, cS qs qb 0, cB qb dB 0 (fun _ => 0)]) hD [0, 1, 2, 3] (by decide) rfl) 0 0 rfl rfl _) rfl rfl hl.1 rfl (lv_room (Nat.le_of_ble_eq_true rfl)) dX0_askedMost_22 ⟨Nat.le_of_ble_eq_true rfl, Nat.le_of_ble_eq_true rfl⟩) hP hD hS hA [0, 1, 2, 3] [] [0, 1, 2, 3] rfl rfl (by decide) (by decide) (fun _ => rfl) (by decide) (fun r_189 u_188 H locs hw_190 hP hD hS => ?_)
        obtain ⟨pf8, rfl⟩ : ∃ z, z = u_188 := ⟨_, rfl⟩
        have hP : va_P D vwCl [cR qr_95 qt ((16 * k) + 16) qs, cT qt dB pf8, cS qs qb 0, cB qb dB 0 (fun _ => 0)] H := hP
        have hD : va_D A [cR qr_95 qt ((16 * k) + 16) qs, cT qt dB pf8, cS qs qb 0, cB qb dB 0 (fun _ => 0)] := hD
        have hw_190 : r_189 = nI 1 ∧ ∀ i, zb_byt (pf8 i) = if 16 * k ≤ i ∧ i < 16 * k + 16 then zb_in4 (zb_pick (nI k) (nI 0) (nI 0) (nI 1) ((i - (16 * k)) / 4)) ((i - (16 * k)) % 4) else zb_byt (f i) := hw_190
        have qhw_190 := hw_190.2
        have ehw_190 := hw_190.1
        subst ehw_190
        have hp8 := qhw_190
        refine k_ne0 (tgt := 30) hx hb dX0_askedMost_25 (by decide) (by omega) (fun c_191 => ?_) (fun c_191 => absurd c_191 (by omega))
        refine lv_iinc (v := (nI (k + 1))) (lv' := [(1, .int (nI (k + 1))), (0, .ref qr_95)]) hx hb dX0_askedMost_30 hl (k := 0) rfl (nI_add k 1) (by decide) rfl (fun ls hl => ?_)
        refine lv_goto (tgt := 10) hx hb dX0_askedMost_33 (by decide) ?_
        have e1 : 16 * k + 16 = 16 * (k + 1) := by omega
        rw [e1] at hP hD
        exact ih (k + 1) pf8 (by omega) (by omega) H locs ls hP hD hS (lv_sub hl [0, 1] rfl)
  refine lv_astore_n (lv' := [(0, .ref qr_95)]) hx hb dX0_askedMost_7 rfl hl (by decide) rfl (fun ls hl => ?_)
  refine lv_iconst (v := nI 0) hx hb dX0_askedMost_8 (by decide) ?_
  refine lv_istore_n (lv' := [(1, .int (nI 0)), (0, .ref qr_95)]) hx hb dX0_askedMost_9 rfl hl (by decide) rfl (fun ls hl => ?_)
  exact hloop 256 0 (fun _ => 0) (Nat.le_refl _) (Nat.zero_le _) H _ ls hP hD hS (lv_sub hl [0, 1] rfl)
end
section
/-! THE CLAIM OUT OF ONE WALK OF THE LAW'S BODY. Your part is whole_start (and what it stands on); all else here is the same for every law, but numbers. -/
def R_law : String := "BitReaderLaw"
def lw_P (b : Addr) (xs : List Int32) (args : Array Value) (s : State) : Prop := args = #[.ref b] ∧ s.IntsAt b xs ∧ xs.length ≤ 40 ∧ (Jvm.Cond.and given_1 narrow_1).before args s = true
def lw_Q (_ : Array Value) (s : State) (o : Outcome) (t : State) : Prop := o = .returned (some (.int 1)) ∧ Framed s o t [] 1200080 5501530
def lw_Z (below : List Frame) (a : Array Value) (s : State) : State → Prop := fun t => ∃ o, t.status = .running ∧ Ended t below o ∧ lw_Q a s o t
/-- the law's own end, with 1 on the stack, nothing written that was there before, its room as the claim has it -/
theorem lw_ret {p : Program} {l : Launch} {e : Env} {s : State} {m : MethodId} {below : List Frame} {meth : Method} {c : Code} {b : Nat} (hx : p.tables.exec = Jvm.exec) (hb : c.code = code) (hr : meth.sig.returnType = ret) (hlocks : meth.locks = false) {pc : Nat} {H : Heap} {ls : Array Slot} (hdg : decode code pc = .ok (.ireturn, 1)) : W p l e room_1 s m #[Value.ref b] below meth c H [] 1200080 5501530 (lw_Z below #[Value.ref b] s) (F0 m pc ls [.int 1]) := by
  intro T hT X
  obtain ⟨fs, hret, hrun, hended, hW, hframe⟩ := X.leave (v := some (.int 1)) (hlocks := hlocks) (fun h => by rw [hr] at h; cases h)
  have hmeth' : T.vm.method? m = some meth := X.method'
  refine ⟨T.setFrames fs, ?_, .returned (some (.int 1)), hrun, hended, rfl, ⟨_, rfl⟩, hW, hframe⟩
  jvm_step X.here [X.here.top, hx, hb, hdg, hmeth', hr, ret, narrow_b1]
  (try refine ⟨rfl, ?_⟩); (try refine ⟨rfl, ?_⟩)
  first | (intro acts; rw [hret _ acts rfl rfl rfl]) | rw [hret _ _ rfl rfl rfl]
  exact Steps.refl _
/-- what holds at the law's entry: the machine, the code, the tables' words (any of lw_tbl by 'hts w (by decide +kernel)'), the script of L ints xs at the cell b, what the Statement gives of the start (any of its parts by flat_of_before) -/
def lw_At (p : Program) (s : State) (m : MethodId) (meth : Method) (c : Code) (b L : Nat) (xs : Nat → Int32) : Prop :=
  p.tables.exec = Jvm.exec ∧ c.code = code ∧ meth.sig.returnType = ret ∧ c.maxLocals = 1 ∧ s.vm.findClass R_law = some m.cls ∧ (∀ w ∈ lw_tbl, w.before #[Value.ref b] s = true) ∧ va_X b L xs s s.heap ∧ b < s.heap.size ∧ meth.locks = false ∧ (Jvm.Cond.and given_1 narrow_1).before #[Value.ref b] s = true
set_option maxHeartbeats 4000000 in
set_option maxRecDepth 100000 in
/-- THE LAW, from its entry -/
theorem whole_start {p : Program} {e : Env} {s : State} {m : MethodId} {below : List Frame} {meth : Method} {c : Code} (l : Launch) (hflags : l.flags = flags0) {b L : Nat} {xs : Nat → Int32} (hL : L ≤ 40) (C0 : lw_At p s m meth c b L xs) : W p l e room_1 s m #[Value.ref b] below meth c s.heap [] 0 0 (lw_Z below #[Value.ref b] s) (entryFrame m ([Value.ref b] : List Value).toArray 1) := by
  obtain ⟨hx, hb, hr, hml, hown, hts0, hX, hbl, hlocks, hgv⟩ := id C0
  have hts : ∀ w ∈ lw_all, w.before #[Value.ref b] s = true := fun w h => hts0 w (lw_all_tbl h)
  obtain ⟨c0, iS0, hKn0⟩ := u_known (C := RX1) (T := TX1) (N := 3) (n := 3) hts0 (fun w h => lw_all_tbl (in_X1 w h)) (hts0 _ (lw_all_tbl q18))
  obtain ⟨c1, iS1, hKn1⟩ := u_known (C := RX2) (T := TX2) (N := 3) (n := 3) hts0 (fun w h => lw_all_tbl (in_X2 w h)) (hts0 _ (lw_all_tbl q26))
  obtain ⟨dB, kB, comp, hd1, hd2, hd3⟩ := Cond.arrayClass_spec (hts _ q41)
  obtain ⟨D, hK⟩ : ∃ D : va_G, va_K D vwCl [(dB, .byte)] s := by
    refine ⟨(fun k => if k = 0 then c0 else c1, fun k => if k = 0 then iS0 else iS1), ?_, ?_⟩
    · intro k q hq
      match k, hq with
      | 0, hq => cases hq; exact hKn0
      | 1, hq => cases hq; exact hKn1
      | k + 2, hq => simp [vwCl] at hq
    · intro k q hq
      match k, hq with
      | 0, hq =>
        cases hq
        exact ⟨fun n z => ⟨fun k h => (by cases h), kB, hd2, comp, hd3⟩, hd1⟩
      | k + 1, hq => simp at hq
  obtain ⟨A, hAe⟩ : ∃ A : Nat → Prop, A = fun q : Nat => s.heap.size ≤ q := ⟨_, rfl⟩
  have hA : ∀ q : Nat, s.heap.size ≤ q → A q := fun q h => by rw [hAe]; exact h
  have hbA : ¬ A b := by rw [hAe]; exact Nat.not_le.mpr hbl
  have hS : va_S A s.heap s.heap [] := va_S.rf
  have hP : va_P D vwCl [] s.heap := fun k q h => by simp at h
  have hl := lv_entry ([.ref b]) (n := 1) (Nat.le_of_ble_eq_true rfl)
  rw [lg_entry_eq]
  generalize (lg_sl ([.ref b]) ++ List.replicate (1 - (lg_sl ([.ref b])).length) Slot.unset).toArray = ls at hl ⊢
  have hl : lv_has ls 1 [(0, .ref b)] := hl
  refine lv_aload_n hx hb dL_law_0 rfl (lv_at hl 0 rfl) ?_
  refine k_callx (va_runS (As := [.ref b]) (rest := []) ⟨hx, hb, hml, hown, hts⟩ (m_elder l D dB _ b L xs hL) (va_cwS 1 hts (lw_S q11 q12 q3 q13) rfl rfl rfl (by decide +kernel) ⟨Nat.le_of_ble_eq_true rfl, Nat.le_of_ble_eq_true rfl⟩) (k_preX hK hX hbl hbA hS _) rfl rfl hl.1 rfl (lv_room (Nat.le_of_ble_eq_true rfl)) dL_law_1 ⟨Nat.le_of_ble_eq_true rfl, Nat.le_of_ble_eq_true rfl⟩) hP hS hA (fun r_2 u_1 H locs hw_3 hP hS => ?_)
  have hP : va_P D vwCl [] H := hP
  have hw_3 : r_2 = (nI 1) := hw_3
  subst hw_3
  refine k_eq0 (tgt := 31) hx hb dL_law_4 (by decide) (by omega) (fun c_4 => absurd c_4 (by omega)) (fun c_4 => ?_)
  refine lv_aload_n hx hb dL_law_7 rfl (lv_at hl 0 rfl) ?_
  refine k_callx (va_runS (As := [.ref b]) (rest := []) ⟨hx, hb, hml, hown, hts⟩ (m_whole l D dB _ b L xs hL) (va_cwS 1 hts (lw_S q171 q172 q3 q173) rfl rfl rfl (by decide +kernel) ⟨Nat.le_of_ble_eq_true rfl, Nat.le_of_ble_eq_true rfl⟩) (k_preX hK hX hbl hbA hS _) rfl rfl hl.1 rfl (lv_room (Nat.le_of_ble_eq_true rfl)) dL_law_8 ⟨Nat.le_of_ble_eq_true rfl, Nat.le_of_ble_eq_true rfl⟩) hP hS hA (fun r_6 u_5 H locs hw_7 hP hS => ?_)
  have hP : va_P D vwCl [] H := hP
  have hw_7 : r_6 = (nI 1) := hw_7
  subst hw_7
  refine k_eq0 (tgt := 31) hx hb dL_law_11 (by decide) (by omega) (fun c_8 => absurd c_8 (by omega)) (fun c_8 => ?_)
  refine lv_aload_n hx hb dL_law_14 rfl (lv_at hl 0 rfl) ?_
  refine k_callx (va_runS (As := [.ref b]) (rest := []) ⟨hx, hb, hml, hown, hts⟩ (m_begun l D dB _ b L xs hL) (va_cwS 1 hts (lw_S q180 q181 q3 q182) rfl rfl rfl (by decide +kernel) ⟨Nat.le_of_ble_eq_true rfl, Nat.le_of_ble_eq_true rfl⟩) (k_preX hK hX hbl hbA hS _) rfl rfl hl.1 rfl (lv_room (Nat.le_of_ble_eq_true rfl)) dL_law_15 ⟨Nat.le_of_ble_eq_true rfl, Nat.le_of_ble_eq_true rfl⟩) hP hS hA (fun r_10 u_9 H locs hw_11 hP hS => ?_)
  have hP : va_P D vwCl [] H := hP
  have hw_11 : r_10 = (nI 1) := hw_11
  subst hw_11
  refine k_eq0 (tgt := 31) hx hb dL_law_18 (by decide) (by omega) (fun c_12 => absurd c_12 (by omega)) (fun c_12 => ?_)
  refine k_callx (va_runS (As := []) (rest := []) ⟨hx, hb, hml, hown, hts⟩ (m_most l D dB _) (va_cwS 0 hts (lw_S q196 q197 q3 q198) rfl rfl rfl (by decide +kernel) ⟨Nat.le_of_ble_eq_true rfl, Nat.le_of_ble_eq_true rfl⟩) (k_pre0 hK) rfl rfl hl.1 rfl (lv_room (Nat.le_of_ble_eq_true rfl)) dL_law_21 ⟨Nat.le_of_ble_eq_true rfl, Nat.le_of_ble_eq_true rfl⟩) hP hS hA (fun r_14 u_13 H locs hw_15 hP hS => ?_)
  have hP : va_P D vwCl [] H := hP
  have hw_15 : r_14 = (nI 1) := hw_15
  subst hw_15
  refine k_eq0 (tgt := 31) hx hb dL_law_24 (by decide) (by omega) (fun c_16 => absurd c_16 (by omega)) (fun c_16 => ?_)
  refine lv_iconst (v := 1) hx hb dL_law_27 (by decide) ?_
  refine lv_goto (tgt := 32) hx hb dL_law_28 (by decide) ?_
  refine va_forget (fun q hq => by have h := hS.2.2 q hq; rw [hAe] at h; exact h) ?_
  refine W.widen (k := 1200080) (n := 5501530) (Nat.le_of_ble_eq_true rfl) (Nat.le_of_ble_eq_true rfl) ?_
  exact lw_ret hx hb hr hlocks dL_law_32
set_option maxHeartbeats 4000000 in
theorem lw_walk (l : Launch) (hflags : l.flags = flags0) (b : Addr) (xs : List Int32) : MetFree l x (headSpec (Jvm.Cond.code x code maxLocals ret :: tables_1) room_1) (lw_P b xs) (fun _ _ _ _ _ => True) lw_Q := by
  refine MetFree.of_bodyS (code := code) (maxLocals := maxLocals) (ret := ret) (by decide) ?_ ?_
  · intro args s m h hn
    obtain ⟨meth, c, h1, h2, h3, h4, h5, h6, -, -⟩ := Cond.code_spec hn (atoms_spec (ws := Jvm.Cond.code x code maxLocals ret :: tables_1) h _ List.mem_cons_self)
    exact ⟨meth, c, h1, h2, h3, h4, h5, h6⟩
  · intro p e s m args below meth c s₁ B hml0 hP _
    obtain ⟨rfl, hx, hbd, hgv⟩ := hP
    obtain ⟨scr, harrAt, hlist, hof, hsmall⟩ := hx
    obtain ⟨hcb, hkn, -, -⟩ := State.arrayAt?_spec harrAt
    have hown : s.vm.findClass R_law = some m.cls := findClass_of_methodNamed B.named
    have hts0 : ∀ c ∈ (Jvm.Cond.code x code maxLocals ret :: tables_1), c.before #[Value.ref b] s = true := atoms_spec (ws := Jvm.Cond.code x code maxLocals ret :: tables_1) B.pre
    have hts : ∀ w ∈ lw_tbl, w.before #[Value.ref b] s = true := k2_hts_sels lw_privs (fun w hw => hts0 w (List.mem_cons_of_mem _ hw)) lw_privs_ok
    have hml : c.maxLocals = 1 := B.maxLocals_eq (hts0 _ List.mem_cons_self)
    have X₀ : Stand p l e room_1 s m #[Value.ref b] below meth c s₁ [] 0 0 := Stand.of_body B
    have hh0 : s₁.heap = s.heap := by rw [B.state]; rfl
    have hsz : scr.slots.size = xs.length := by rw [← Array.length_toList, hlist, List.length_map]
    have hval : ∀ j : Nat, j < xs.length → scr.slots[j]? = some (.int (xs.getD j 0)) := fun j hj => by
      rw [← Array.getElem?_toList, hlist]
      simp [hj]
    have hbl : b < s.heap.size := (Array.getElem?_eq_some_iff.mp hcb).1
    have hX : va_X b xs.length (fun j => xs.getD j 0) s s.heap := ⟨scr, hcb, hof, hkn, hsz, hval⟩
    have K : W p l e room_1 s m #[Value.ref b] below meth c s₁.heap [] 0 0 (lw_Z below #[Value.ref b] s) (entryFrame m ([Value.ref b] : List Value).toArray 1) := by
      rw [hh0]
      exact whole_start l hflags hbd ⟨B.exec, B.bytes, B.returns, hml, hown, hts, hX, hbl, B.notSynchronized, hgv⟩
    obtain ⟨t, a1, o, b1, b2, b3⟩ := K s₁ rfl X₀
    exact ⟨t, o, a1, b1, b2, b3⟩
theorem lw_pre_spec {args : Array Value} {s : State} (h : (Jvm.Cond.and given_1 narrow_1).before args s = true) (hr : rest_1_c.before args s = true) : ∃ (b : Addr) (xs : List Int32), lw_P b xs args s := by
  have hs := flat_of_before _ h
  have hq := flat_of_before _ hr
  have hc : (Cond.count 1).before args s = true := hs _ (by decide +kernel)
  have harr : (Cond.arrayOf (.arg 0) .int).before args s = true := hs _ (by decide +kernel)
  have hle : (Cond.le (.length (.arg 0)) (.int 40)).before args s = true := hs _ (by decide +kernel)
  have hlen : (Cond.isInt (.length (.arg 0))).before args s = true := hq _ (by decide +kernel)
  have hall : (Cond.all (.arg 0) (.isInt (.elem (.arg 0) (.index 0)))).before args s = true := hq _ (by decide +kernel)
  obtain ⟨b, xs, hb, hx⟩ := State.ints_of_pre rfl harr hlen hall
  have hsm : xs.length < 2 ^ 31 := hx.choose_spec.2.2.2
  have hev : (Term.length (.arg 0)).eval args s none [] s = some (.int xs.length.toInt32) := hx.length_eval hb
  have hv := Cond.le_ints hev (show (Term.int 40).eval args s none [] s = some (.int 40) from rfl)
  have hd : xs.length.toInt32 ≤ 40 := by
    simpa [Cond.before, Cond.holds, hv] using hle
  have hN : xs.length ≤ 40 := (Int32.ofNat_le_ofNat hsm (by decide)).mp (show Int32.ofNat xs.length ≤ Int32.ofNat 40 from hd)
  exact ⟨b, xs, Cond.one_arg hc (show args[0]? = some (.ref b) from hb), hx, hN, h⟩
theorem lw_comes (l : Launch) (hflags : l.flags = flags0) : Comes l x (Jvm.Cond.code x code maxLocals ret :: tables_1) room_1 (fun tb e args s => Calls_1 tb e args s ∧ rest_1 tb e args s ∧ Pre_1 tb e args s)
    (fun _ _ args s o t => lw_Q args s o t) := by
  intro p e ha hc hk s m args below hf hfit hheap happ hpre
  obtain ⟨b, xs, hP⟩ := lw_pre_spec hpre.2.2 hpre.2.1
  obtain ⟨k, o, h1, h2, h3, hQ⟩ := lw_walk l hflags b xs p e ha hc hk s m args below hf ((Spec.applies_iff_loose hf).mp happ).1 hP trivial
  exact ⟨k, o, h1, h2, h3, hQ⟩
theorem lw_frame {s t : State} {o : Outcome} {args : Array Value} (h : Framed s o t [] 1200080 5501530) :
    Framed s o t (fieldLocs frame_1_writes args s ++ arrayLocs frame_1_arrays args s ++ staticLocs frame_1_statics s) 1200080 5501530 := h
theorem lw_limb (L : Cond) (hL : ∀ (args : Array Value) (s t : State), L.after args s (.returned (some (.int 1))) t = true) :
    ArmFor flags0 classFile x code maxLocals ret World_1 tables_1 room_1 Calls_1 rest_1 Pre_1
      (fun tb e a s o t => postC L tb e a s o t ∧ Framed s o t (fieldLocs frame_1_writes a s ++ arrayLocs frame_1_arrays a s ++ staticLocs frame_1_statics s) 1200080 5501530) := by
  intro l hflags _ _ p e ha hc hk s m args below hf hfit hheap happ hpre
  obtain ⟨k, o, h1, h2, h3, rfl, hF⟩ := lw_comes l hflags p e ha hc hk s m args below hf hfit hheap happ hpre
  exact ⟨k, _, h1, h2, h3, hL args s _, lw_frame hF⟩
theorem i_vc : Claimed_1_1 ∧ Claimed_1_2 := ⟨lw_limb limb_1_1 (fun args s t => by simp [limb_1_1, Cond.after, Cond.holds, Cond.value]), lw_limb limb_1_2 (fun args s t => Cond.after_iff.mpr (by
  first | (rw [show limb_1_2 = Cond.eq .result (.int 1) from rfl, Cond.eq_ints (x := 1) (y := 1) rfl rfl]; simp; done) | (simp [limb_1_2, Cond.value, Term.eval]; done)))⟩
end
