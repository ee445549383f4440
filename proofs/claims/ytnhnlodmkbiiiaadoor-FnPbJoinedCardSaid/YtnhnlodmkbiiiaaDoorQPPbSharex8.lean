/- Nothing of this text is rested on. -/
import Derived.Test.YtnhnlodmkbiiiaaDoorQPPbSharex0
